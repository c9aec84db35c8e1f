/- The table of powers of ten: each row is a power rounded up, and its neighbours leave no near miss. -/
import Derived.Test.YtmphnnmnbpheiaaGreatDoorFlUs
import Derived.Test.YtmphnnmnbpheiaaGreatDoorFlCerts
import GoSem.PinnedTables
import Derived.KernelRfl
namespace Go.Proofs.YtmphnnmnbpheiaaGreatDoor
namespace Fl

def rowOk (n d q h l : Nat) (c : Nat × Nat × Nat × Nat) : Bool :=
  Nat.ble (n + l * d) (h * (2 ^ 64 * d)) && Nat.ble (h * (2 ^ 64 * d)) (n + d + l * d) && Nat.blt l (2 ^ 64) && Nat.blt h (2 ^ 64) &&
  Nat.ble (2 ^ 127 * d) n && Nat.ble n ((2 ^ 128 - 2 ^ 80) * d) && Nat.ble (2 ^ 63) h &&
  Nat.beq (c.2.2.1 * c.2.1) (c.1 * c.2.2.2 + 1) && Nat.ble (2 ^ 57) (c.2.1 + c.2.2.2) &&
  Nat.ble (c.1 * q) (c.2.1 * (128 * n)) && Nat.ble (c.2.2.2 * (128 * n)) (c.2.2.1 * q) &&
  (Nat.beq (c.2.1 * (128 * n)) (c.1 * q) || Nat.ble (c.1 * q + 2 ^ 65 * d) (c.2.1 * (128 * n))) &&
  (Nat.beq (c.2.2.2 * (128 * n)) (c.2.2.1 * q) || Nat.ble (c.2.2.2 * (128 * n) + 2 ^ 65 * d) (c.2.2.1 * q))

def rowsOk (f : Nat → Nat) (d q : Nat) : Nat → List (Nat × Nat) → List (Nat × Nat × Nat × Nat) → Bool
  | _, _, [] => true
  | _, [], _ :: _ => false
  | i, r :: rs, c :: cs => rowOk (f i) d q r.1 r.2 c && rowsOk f d q (i + 1) rs cs

theorem rowsOk_at (f : Nat → Nat) (d q : Nat) : ∀ (cs : List (Nat × Nat × Nat × Nat)) (rs : List (Nat × Nat)) (i k : Nat), rowsOk f d q i rs cs = true → k < cs.length →
    ∃ r c, rs[k]? = some r ∧ rowOk (f (i + k)) d q r.1 r.2 c = true
  | [], _, _, _, _, hk => absurd hk (by simp)
  | _ :: _, [], _, _, h, _ => by simp [rowsOk] at h
  | c :: cs, r :: rs, i, 0, h, _ => by
    simp only [rowsOk, Bool.and_eq_true] at h
    exact ⟨r, c, rfl, h.1⟩
  | c :: cs, r :: rs, i, k + 1, h, hk => by
    simp only [rowsOk, Bool.and_eq_true] at h
    obtain ⟨r', c', h1, h2⟩ := rowsOk_at f d q cs rs (i + 1) k h.2 (by simpa using hk)
    exact ⟨r', c', h1, by rw [show i + (k + 1) = i + 1 + k by omega]; exact h2⟩

/-- What is known of a row: n / d is the power, h and l are its words. -/
structure Row (n d h l : Nat) : Prop where
  up : n + l * d ≤ h * (2 ^ 64 * d)
  near : h * (2 ^ 64 * d) ≤ n + d + l * d
  lw : l < 2 ^ 64
  hw : h < 2 ^ 64
  big : 2 ^ 127 * d ≤ n
  small : n ≤ (2 ^ 128 - 2 ^ 80) * d
  top : 2 ^ 63 ≤ h
  miss : ∀ x m, x < 2 ^ 57 → m * (d * 2 ^ 133) < x * (128 * n) + 2 ^ 65 * d → x * (128 * n) < m * (d * 2 ^ 133) + 2 ^ 65 * d →
    x * (128 * n) = m * (d * 2 ^ 133)

theorem row_of {n d q h l : Nat} (hq : q = d * 2 ^ 133) {c : Nat × Nat × Nat × Nat} (hk : rowOk n d q h l c = true) : Row n d h l := by
  subst hq
  simp only [rowOk, Bool.and_eq_true, Bool.or_eq_true, Nat.ble_eq, Nat.blt_eq, Nat.beq_eq] at hk
  obtain ⟨⟨⟨⟨⟨⟨⟨⟨⟨⟨⟨⟨a1, a2⟩, a3⟩, a4⟩, a5⟩, a6⟩, a7⟩, a8⟩, a9⟩, a10⟩, a11⟩, a12⟩, a13⟩ := hk
  exact ⟨a1, a2, a3, a4, a5, a6, a7, fun x m hx h1 h2 => cert a8 a9 a10 a11 a12 a13 hx h1 h2⟩

/-- The scaling gives the number of quarters, with a sticky bit. -/
theorem us_row {n d h l x s : Nat} (R : Row n d h l) (hd : 0 < d) (hx : x < 2 ^ 64) (h128 : x % 128 = 0) (hxh : 2 ^ 64 ≤ x * h) (hs : 5 ≤ s) :
    us (2 ^ 64) x h l (2 ^ s) = unr (x * n) (2 ^ 64 * (2 ^ 64 * d) * 2 ^ s) := by
  apply us_eq (by decide) (Nat.pow_pos (by decide)) hx R.lw hd (by have := R.up; rw [Nat.mul_assoc]; exact this)
    (by have := R.near; rw [Nat.mul_assoc]; exact this) hxh
  intro m h1 h2
  obtain ⟨y, rfl⟩ : ∃ y, x = y * 128 := ⟨x / 128, by omega⟩
  obtain ⟨t, rfl⟩ : ∃ t, s = 5 + t := ⟨s - 5, by omega⟩
  have e1 : m * (2 ^ 64 * (2 ^ 64 * d) * 2 ^ (5 + t)) = m * 2 ^ t * (d * 2 ^ 133) := by
    rw [Nat.pow_add]; generalize 2 ^ t = u; grind
  have e2 : 2 * (2 ^ 64 * d) = 2 ^ 65 * d := by grind
  have e3 : y * 128 * n = y * (128 * n) := by grind
  rw [e1, e2, e3] at h1 h2
  rw [e1, e3]
  exact R.miss y (m * 2 ^ t) (by omega) h1 h2

/-- The place of the first digit of a power: 1157 more than its logarithm. -/
def L (i : Nat) : Nat := (i * 108853 + 31732) / 32768
def N (i : Nat) : Nat := 10 ^ i * 2 ^ (2284 - L i)

/-- Ten to the offset of the exponents; two to the least float's. -/
def B348 : Nat := 10 ^ 348
def C1074 : Nat := 2 ^ 1074
def C1130 : Nat := 2 ^ 1130
def C1137 : Nat := 2 ^ 1137
def D1 : Nat := 10 ^ 348 * 2 ^ 1000
def D133 : Nat := 10 ^ 348 * 2 ^ 1133
def Q1 : Nat := 2 ^ 64 * (2 ^ 64 * D1)

set_option maxRecDepth 100000 in
theorem rows_ok : rowsOk N D1 D133 6 (Go.Pinned.pow10Rows.drop 6) certs = true := by kernel_rfl
set_option maxRecDepth 100000 in
theorem certs_length : certs.length = 667 := by kernel_rfl
set_option maxRecDepth 100000 in
theorem rows_length : Go.Pinned.pow10Rows.length = 696 := by kernel_rfl

theorem d133 : D133 = D1 * 2 ^ 133 := by kernel_rfl
theorem D1_pos : 0 < D1 := Nat.le_of_ble_eq_true (by kernel_rfl)
theorem B348_pos : 0 < B348 := Nat.le_of_ble_eq_true (by kernel_rfl)
theorem C1074_pos : 0 < C1074 := Nat.le_of_ble_eq_true (by kernel_rfl)
theorem Q1_pos : 0 < Q1 := Nat.le_of_ble_eq_true (by kernel_rfl)

theorem row_at {i : Nat} (h6 : 6 ≤ i) (hi : i ≤ 672) : ∃ h l, Go.Pinned.pow10Rows[i]? = some (h, l) ∧ Row (N i) D1 h l := by
  obtain ⟨r, c, h1, h2⟩ := rowsOk_at _ _ _ certs (Go.Pinned.pow10Rows.drop 6) 6 (i - 6) rows_ok (by rw [certs_length]; omega)
  rw [List.getElem?_drop, show 6 + (i - 6) = i by omega] at h1
  rw [show 6 + (i - 6) = i by omega] at h2
  exact ⟨r.1, r.2, h1, row_of d133 h2⟩

end Fl
end Go.Proofs.YtmphnnmnbpheiaaGreatDoor
