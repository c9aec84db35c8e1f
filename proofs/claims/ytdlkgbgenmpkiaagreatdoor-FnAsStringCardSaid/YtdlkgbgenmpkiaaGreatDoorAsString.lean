/- The walk of the law FnAsString. -/
import Derived.Test.YtdlkgbgenmpkiaaGreatDoorWhole
import Derived.Test.YtdlkgbgenmpkiaaGreatDoorSpecInt
namespace Go.Proofs.YtdlkgbgenmpkiaaGreatDoor
open Go Go.RowKit
set_option maxRecDepth 10000 in
set_option maxHeartbeats 400000 in
theorem law_any (s : ByteArray) (neg : Bool) (l : List UInt8) (A : Option Addr) (c : Nat) (w : World) (hc0 : l.length ≤ c) (hr : Reads w w.heap.size 1 A l.length (bv l)) :
    Calls Tryz.prog 3 #[.string s, .bool neg, .slice A l.length c] w fun e w' => e = .returned (.bool true) ∧ Below w.heap.size w w' := by
  have HR := Lib.hid hr
  clear hr
  go_enter Tryz.func3, Tryz.ntmps3
  by_cases h1 : 2147483647 < s.size
  · go_wp2_with fail
    go_ret
    exact ⟨rfl, Below.refl _ _⟩
  · by_cases h2 : 2147483647 < l.length
    · go_wp2_with fail
      go_ret
      exact ⟨rfl, Below.refl _ _⟩
    · have hlen : (cutB (l.take 400)).length ≤ 400 := by
        have h1 : (cutB (l.take 400)).length ≤ (l.take 400).length := List.Sublist.length_le (List.dropWhile_sublist _)
        rw [List.length_take] at h1
        omega
      go_wp2_with fail
      refine (lawWhole_any neg l A c 400 w (by omega) (by omega) hc0 HR.out).mono ?_
      rintro e w1 ⟨n, A0, A1, n0, c0, c1, rfl, hr1, hc1, hB1⟩
      generalize cutB (l.take 400) = r at *
      have H1 := Lib.hid (And.intro hr1 hB1)
      clear hr1 hB1 HR
      go_wp2_with fail
      refine gen2 (M := fun W => Calls _ _ _ W _) fun W hB b7 b8 hz => ?_
      have hr2 := (H1.out.1.below hB).more (B' := W.heap.size) (by omega)
      have hB2 := H1.out.2.trans (hB.mono H1.out.2.size)
      have H2 := Lib.hid (And.intro hr2 (And.intro hB2 b8))
      clear hr2 hB2 b7 b8 hB hz H1
      refine (asString_string false none 0 0 0 s none 0 0 W).mono ?_
      rintro e w2 ⟨rfl, hB3⟩
      obtain ⟨hr2, hB2, b8⟩ := H2.out
      have b8 := b8.below hB3 b8.lt
      have hr3 := (hr2.below hB3).more hB3.size
      have hB4 := hB2.trans (hB3.mono hB2.size)
      obtain ⟨k0, k1, k2, k3, k4, k5, _, _, _, _, _, _⟩ := b8.c6
      have H3 := Lib.hid (And.intro hr3 hB4)
      clear hr2 hB2 hB3 b8 hr3 hB4 H2
      go_wp2_with fail
      refine (asString_int n r A1 _ c1 0 ⟨#[]⟩ none 0 0 w2 rfl (by omega) hc1 H3.out.1).mono ?_
      rintro e w3 ⟨rfl, hB5⟩
      have hB6 := H3.out.2.trans (hB5.mono H3.out.2.size)
      clear H3 hB5 k0 k1 k2 k3 k4 k5
      go_wp2
      go_ret
      exact ⟨rfl, hB6⟩
end Go.Proofs.YtdlkgbgenmpkiaaGreatDoor
