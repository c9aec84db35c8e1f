/- The digits laid into a buffer, zeros at the end left out. -/
import Derived.Test.YtmphnnmnbpheiaaGreatDoorFlTiny
import Derived.Test.YtmphnnmnbpheiaaGreatDoorShelf
import Derived.Test.YtmphnnmnbpheiaaGreatDoorFlDig
namespace Go.Proofs.YtmphnnmnbpheiaaGreatDoor
open Go Go.RowKit
open Fl
open Go.Sort Go.Lib
/-- The buffer begins with these bytes. -/
def DigAt (w : World) (g : Nat) (l : List UInt8) : Prop := g < w.heap.size ∧ ∀ k (h : k < l.length), w.cell? ⟨g, k, none⟩ = some (.int .u8 (l[k].toNat : Int))
theorem DigAt.grown {w w' : World} {g : Nat} {l : List UInt8} {row : Option Nat} (h : DigAt w g l) (hg : w.grownBy w' row) (hne : row ≠ some g) : DigAt w' g l :=
  ⟨by have := hg.size; have := h.1; omega, fun k hk => (World.cell?_of_block (hg.block g h.1 (fun e => hne e.symm))).trans (h.2 k hk)⟩
theorem DigAt.alloc {w : World} {g : Nat} {l : List UInt8} (h : DigAt w g l) (o : Obj) : DigAt (w.alloc o) g l :=
  ⟨by have := h.1; simp; omega, fun k hk => (World.cell?_alloc_lt w o ⟨g, k, none⟩ h.1).trans (h.2 k hk)⟩
theorem DigAt.drewN {w : World} {g : Nat} {l : List UInt8} (h : DigAt w g l) (n : Nat) : DigAt (w.drewN n) g l := h
/-- Digits: at least one, each a digit. -/
structure Digs (l : List UInt8) : Prop where
  pos : 1 ≤ l.length
  range : ∀ b ∈ l, 48 ≤ b.toNat ∧ b.toNat ≤ 57
theorem digs_cut {d n k : Nat} (hd : d < 10 ^ n) (hk : k ≤ n) (h0 : ∀ j (h : j < (digs d n).length), k ≤ j → (digs d n)[j] = 48) : dval ((digs d n).take k) * 10 ^ (n - k) = d := by
  have e : digs d n = (digs d n).take k ++ List.replicate (n - k) 48 := by
    conv => lhs; rw [← List.take_append_drop k (digs d n)]
    congr 1
    apply List.ext_getElem
    · simp [digs_length]
    · intro j h1 h2
      rw [List.getElem_replicate, List.getElem_drop]
      exact h0 (k + j) (by rw [digs_length]; rw [List.length_replicate] at h2; omega) (by omega)
  have := digs_val n d hd
  rw [e, dval_append, dval_zeros, List.length_replicate] at this
  omega
theorem nd_le {d : Nat} (hd1 : 1 ≤ d) (hd : d < 10 ^ 17) : Lib.nDigits d ≤ 17 := by
  rcases Nat.lt_or_ge 17 (Lib.nDigits d) with h | h
  · exfalso
    rcases Nat.lt_or_ge d (10 ^ 16) with h' | h'
    · have h9 : ∀ k : Nat, k ≤ 17 → d < 10 ^ k → 1 ≤ k → Lib.nDigits d ≤ k := by
        intro k hk
        induction k with
        | zero => intro _ h0; omega
        | succ k ih =>
          intro hk' _
          rcases Nat.lt_or_ge d (10 ^ k) with h5 | h5
          · rcases Nat.eq_zero_or_pos k with rfl | hk0
            · simp at h5; omega
            · have := ih (by omega) h5 hk0; omega
          · rw [Lib.nDigits_unique k d h5 hk']; exact Nat.le_refl _
      have := h9 17 (by omega) hd (by omega)
      omega
    · rw [Lib.nDigits_unique 16 d h' hd] at h
      omega
  · exact h
set_option maxRecDepth 10000 in
set_option maxHeartbeats 1000000 in
theorem setDigits_any (gb d nd : Nat) (p : Int) (hd1 : 1 ≤ d) (hd : d < 10 ^ 17) (hnd : nd = Lib.nDigits d) (hp : -1000 ≤ p) (hp' : p ≤ 1000) (w : World) (hb : Blk w gb 124 (Array.replicate 32 (.int .u8 0))) :
    Calls Tryz.prog 75 #[.slice (some ⟨gb, 0, none⟩) 32 32, .int .u64 d, .int .i64 p, .int .i64 nd] w fun e w' =>
      ∃ l : List UInt8, Digs l ∧ l.length ≤ nd ∧ dval l * 10 ^ (nd - l.length) = d ∧ e = .returned (.tuple #[.int .i64 (nd + p), .int .i64 l.length]) ∧ DigAt w' gb l ∧ w.grownBy w' (some gb) ∧ w'.heap.size = w.heap.size := by
  have hn1 : 1 ≤ nd := by rw [hnd]; exact Lib.nDigits_pos d
  have hn17 : nd ≤ 17 := by rw [hnd]; exact nd_le hd1 hd
  have hlt : d < 10 ^ nd := by rw [hnd]; exact Lib.lt_pow_nDigits d
  have hH : Holds (fun (b : UInt8) => Value.int .u8 (b.toNat : Int)) w gb 0 (Array.replicate nd 0) := by
    intro j hj
    have hj' : j < nd := by simpa using hj
    refine ⟨?_, hb.frozen _⟩
    rw [Nat.zero_add, hb.cell j]
    simp [hj', show j < 32 by omega]
  have HF := Lib.hid (Tryz.internal_strconv_formatBase10 gb 0 32 d (Array.replicate nd 0) w hH (by simpa using hlt) (by omega) (by simp; omega))
  have HH := Lib.hid (And.intro hH (And.intro hlt (And.intro hnd hb)))
  clear hH hlt hnd hb
  simp only [Array.size_replicate] at HF
  go_enter Tryz.func75, Tryz.ntmps75
  go_wp2_with fail
  refine HF.out.mono ?_
  rintro e w1 ⟨rfl, n, v', dk, rfl, hI⟩
  obtain ⟨hH, hlt, hnd, hb⟩ := HH.out
  have hs : dk.size = nd := hI.size
  have hdk : dk.toList = digs d nd := by
    apply List.ext_getElem
    · simp [digs_length, hs]
    · intro j h1 h2
      rw [digs_length] at h2
      have := hI.done j (by omega) h2
      rw [getElem!_pos dk j (by omega)] at this
      simp only [Array.getElem_toList]
      rw [this]
      simp [digs]
  have hcell : ∀ j (h : j < (digs d nd).length), ((putRow (fun (b : UInt8) => Value.int .u8 (b.toNat : Int)) w gb 0 dk).drewN n).cell? ⟨gb, j, none⟩ = some (.int .u8 ((digs d nd)[j].toNat : Int)) := by
    intro j h
    have h' : j < nd := by rw [digs_length] at h; exact h
    have := cell?_putRow (fun (b : UInt8) => Value.int .u8 (b.toNat : Int)) w gb 0 (Array.replicate nd 0) dk hH (by simp [hs]) j (by omega)
    rw [Nat.zero_add] at this
    refine Eq.trans this ?_
    rw [getElem!_pos dk j (by omega)]
    congr 3
    simp only [← hdk, Array.getElem_toList]
  have hg : w.grownBy ((putRow (fun (b : UInt8) => Value.int .u8 (b.toNat : Int)) w gb 0 dk).drewN n) (some gb) := by
    refine ⟨rfl, rfl, rfl, by simp [World.drewN], fun k hk hne => ?_⟩
    have : gb ≠ k := fun e => hne (by rw [e])
    simp [World.drewN, putRow, mapBlock, Array.getElem?_modify, this]
  have hz : ((putRow (fun (b : UInt8) => Value.int .u8 (b.toNat : Int)) w gb 0 dk).drewN n).heap.size = w.heap.size := by simp [World.drewN]
  clear hI hdk hs hH
  generalize (putRow (fun (b : UInt8) => Value.int .u8 (b.toNat : Int)) w gb 0 dk).drewN n = w1 at *
  have HC := Lib.hid (And.intro hcell (And.intro hg (And.intro hz (And.intro hlt hb))))
  clear hcell hg hz hlt hnd hb HF HH
  go_wp2_with fail
  go_loop [3] (fun i => ∃ k : Nat, k ≤ nd ∧ Hid (∀ j (h : j < (digs d nd).length), k ≤ j → (digs d nd)[j] = 48) ∧ i = .int .i64 k) (fun i => (RowKit.intOf i).toNat)
  case atStart => exact ⟨nd, Nat.le_refl _, Lib.hid (fun j h h' => absurd h (by rw [digs_length]; omega)), rfl⟩
  case round =>
    obtain ⟨k, hk, H0, rfl⟩ := hrel
    rcases k with _ | k
    · exfalso
      have := digs_cut HC.out.2.2.2.1 hk H0.out
      rw [List.take_zero] at this
      simp [dval] at this
      omega
    · have hk' : k < (digs d nd).length := by rw [digs_length]; omega
      have hcell := HC.out.1 k hk'
      have hx : ((digs d nd)[k].toNat : Int) = 48 ↔ (digs d nd)[k] = 48 := by
        constructor
        · intro h; exact UInt8.toNat_inj.1 (show (digs d nd)[k].toNat = 48 by omega)
        · intro h; rw [h]; rfl
      have HX := Lib.hid hx
      clear hx
      by_cases hb : (digs d nd)[k] = 48
      · have hz := HX.out.2 hb
        have HB := Lib.hid hb
        generalize ((digs d nd)[k].toNat : Int) = x at hcell hz
        have hz' : (x == 48) = true := by simp [hz]
        clear hb hz HX
        go_wp2
        refine ⟨⟨k, by omega, Lib.hid (fun j h h' => ?_), rfl⟩, by simp [RowKit.intOf]⟩
        rcases Nat.lt_or_ge k j with h1 | h1
        · exact H0.out j h h1
        · obtain rfl : j = k := by omega
          exact HB.out
      · have hz := fun h => hb (HX.out.1 h)
        generalize ((digs d nd)[k].toNat : Int) = x at hcell hz
        have hz' : (x == 48) = false := by simp; exact hz
        clear hb hz HX
        go_wp2
        go_ret2
        obtain ⟨_, hg, hsz, hlt, hbk⟩ := HC.out
        have hln : ((digs d nd).take (k + 1)).length = k + 1 := by rw [List.length_take, digs_length]; omega
        refine ⟨(digs d nd).take (k + 1), ⟨by rw [hln]; omega, fun b hb => digs_range d nd b (List.mem_of_mem_take hb)⟩, by rw [hln]; exact hk, by rw [hln]; exact digs_cut hlt hk H0.out, by rw [hln]; rfl, ⟨by rw [hsz]; exact hbk.lt, fun j hj => ?_⟩, hg, hsz⟩
        rw [hln] at hj
        rw [List.getElem_take]
        exact HC.out.1 j (by rw [digs_length]; omega)
end Go.Proofs.YtmphnnmnbpheiaaGreatDoor
