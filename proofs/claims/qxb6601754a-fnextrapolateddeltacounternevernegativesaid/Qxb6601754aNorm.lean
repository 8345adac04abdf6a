/-
  Plain facts on float64: positive normal numbers, their quotients and products; whole numbers.
-/
import Derived.Test.Qxb6601754aSign
namespace Go.Proofs.Qxb6601754a

/-- Positive, finite, not subnormal; its exponent field between 'lo' and 'hi' (or the power of two at 'hi'). -/
def Norm (lo hi x : Nat) : Prop := lo * 4503599627370496 ≤ x ∧ x ≤ hi * 4503599627370496

/-- The exponent field. -/
def ex (x : Nat) : Nat := x / 4503599627370496

theorem Norm.ex_ge {lo hi x : Nat} (h : Norm lo hi x) : lo ≤ ex x := by
  unfold ex; obtain ⟨h1, _⟩ := h; omega
theorem Norm.ex_le {lo hi x : Nat} (h : Norm lo hi x) : ex x ≤ hi := by
  unfold ex; obtain ⟨_, h1⟩ := h; omega
theorem Norm.mono {lo hi lo' hi' x : Nat} (h : Norm lo hi x) (h1 : lo' ≤ lo) (h2 : hi ≤ hi') : Norm lo' hi' x := by
  obtain ⟨a, b⟩ := h; exact ⟨Nat.le_trans (Nat.mul_le_mul_right _ h1) a, Nat.le_trans b (Nat.mul_le_mul_right _ h2)⟩

/-- What such a number stands for. -/
theorem read_ex {x : Nat} (h1 : 1 ≤ ex x) (h2 : ex x ≤ 2046) :
    ∃ m, 4503599627370496 ≤ m ∧ m < 9007199254740992 ∧ Ieee.double.read x = .number false m ((ex x : Int) - 1075) := by
  unfold ex at *
  refine ⟨4503599627370496 + x % 4503599627370496, by omega, by omega, ?_⟩
  rw [read_normal (by omega) (by omega)]
  congr 1
  omega

theorem log_range {n a b : Nat} (h1 : 2 ^ a ≤ n) (h2 : n < 2 ^ b) : n ≠ 0 ∧ a ≤ n.log2 ∧ n.log2 < b := by
  have hn : n ≠ 0 := by have := Nat.two_pow_pos a; omega
  exact ⟨hn, (Nat.le_log2 hn).2 h1, (Nat.log2_lt hn).2 h2⟩

theorem log52 {m : Nat} (h1 : 4503599627370496 ≤ m) (h2 : m < 9007199254740992) : m.log2 = 52 := by
  have := log_range (a := 52) (b := 53) (n := m) (by rw [p52]; exact h1) (by rw [p53]; exact h2)
  omega

/-- The digits of a quotient of two full significands. -/
theorem quo_digits {m n : Nat} (hm1 : 4503599627370496 ≤ m) (hm2 : m < 9007199254740992) (hn1 : 4503599627370496 ≤ n) (hn2 : n < 9007199254740992) (b : Bool) :
    2 ^ 54 ≤ 2 * (m * 2 ^ 54 / n) + b.toNat ∧ 2 * (m * 2 ^ 54 / n) + b.toNat < 2 ^ 56 := by
  have hb : b.toNat ≤ 1 := by cases b <;> simp
  have k1 : 2 ^ 53 ≤ m * 2 ^ 54 / n := by
    rw [Nat.le_div_iff_mul_le (by omega)]
    have : (2 : Nat) ^ 53 * n ≤ 2 ^ 53 * 2 ^ 53 := Nat.mul_le_mul_left _ (by rw [p53]; omega)
    have : 2 ^ 52 * 2 ^ 54 ≤ m * 2 ^ 54 := Nat.mul_le_mul_right _ (by rw [p52]; omega)
    rw [← Nat.pow_add] at *
    omega
  have k2 : m * 2 ^ 54 / n < 2 ^ 55 := by
    rw [Nat.div_lt_iff_lt_mul (by omega)]
    have : m * 2 ^ 54 < 2 ^ 53 * 2 ^ 54 := Nat.mul_lt_mul_of_pos_right (by rw [p53]; omega) (Nat.two_pow_pos _)
    have : (2 : Nat) ^ 55 * 2 ^ 52 ≤ 2 ^ 55 * n := Nat.mul_le_mul_left _ (by rw [p52]; omega)
    rw [← Nat.pow_add] at *
    omega
  generalize m * 2 ^ 54 / n = q at k1 k2
  have e53 : (2 : Nat) ^ 54 = 2 * 2 ^ 53 := by decide
  have e55 : (2 : Nat) ^ 56 = 2 * 2 ^ 55 := by decide
  rw [e53, e55]
  generalize (2 : Nat) ^ 53 = u at *
  generalize (2 : Nat) ^ 55 = v at *
  omega

theorem div_norm {lo hi lo' hi' x y : Nat} (hx : Norm lo hi x) (hy : Norm lo' hi' y) (a1 : 1 ≤ lo) (a2 : hi ≤ 2046) (b1 : 1 ≤ lo') (b2 : hi' ≤ 2046)
    (c1 : hi' + 1 ≤ lo + 1022) (c2 : hi + 1023 ≤ 2045 + lo') :
    ∃ r, floatBits .quo .f64 x y = some r ∧ Norm (lo + 1022 - hi') (hi + 1024 - lo') r := by
  have x1 := hx.ex_ge
  have x2 := hx.ex_le
  have y1 := hy.ex_ge
  have y2 := hy.ex_le
  obtain ⟨m, m1, m2, hm⟩ := read_ex (x := x) (by omega) (by omega)
  obtain ⟨n, n1, n2, hn⟩ := read_ex (x := y) (by omega) (by omega)
  have e : floatBits .quo .f64 x y = ((Ieee.double.read x).quotient (Ieee.double.fractionBits + 2) (Ieee.double.read y)).map Ieee.double.write := rfl
  rw [e, hm, hn]
  have n0 : n ≠ 0 := by omega
  have ef : Ieee.double.fractionBits + 2 + n.log2 - m.log2 = 54 := by
    rw [log52 m1 m2, log52 n1 n2]; rfl
  simp only [Ieee.Datum.quotient, if_neg n0, Option.map_some, ef, shl_eq, write_number]
  have hq := quo_digits m1 m2 n1 n2 (m * 2 ^ 54 % n != 0)
  generalize hmag : 2 * (m * 2 ^ 54 / n) + (m * 2 ^ 54 % n != 0).toNat = mag at hq
  obtain ⟨g0, g1, g2⟩ := log_range hq.1 hq.2
  have hb := rungOf_bounds mag ((ex x : Int) - 1075 - ((ex y : Int) - 1075) - (54 : Nat) - 1) g0 (ex x + 968 + mag.log2 - ex y) (by omega) (by omega) (by omega)
  refine ⟨_, rfl, ?_⟩
  rw [show (false ^^ false) = false from rfl, word_false]
  generalize rungOf mag ((ex x : Int) - 1075 - ((ex y : Int) - 1075) - (54 : Nat) - 1) = r at hb
  generalize hE : ex x + 968 + mag.log2 - ex y = E at hb
  have l1 : lo + 1022 - hi' ≤ E := by omega
  have l2 : E + 1 ≤ hi + 1024 - lo' := by omega
  exact ⟨Nat.le_trans (Nat.mul_le_mul_right _ l1) hb.1, Nat.le_trans hb.2 (Nat.mul_le_mul_right _ l2)⟩

theorem mul_norm {lo hi lo' hi' x y : Nat} (hx : Norm lo hi x) (hy : Norm lo' hi' y) (a1 : 1 ≤ lo) (a2 : hi ≤ 2046) (b1 : 1 ≤ lo') (b2 : hi' ≤ 2046)
    (c1 : 1024 ≤ lo + lo') (c2 : hi + hi' ≤ 3067) :
    ∃ r, floatBits .mul .f64 x y = some r ∧ Norm (lo + lo' - 1023) (hi + hi' - 1021) r := by
  have x1 := hx.ex_ge
  have x2 := hx.ex_le
  have y1 := hy.ex_ge
  have y2 := hy.ex_le
  obtain ⟨m, m1, m2, hm⟩ := read_ex (x := x) (by omega) (by omega)
  obtain ⟨n, n1, n2, hn⟩ := read_ex (x := y) (by omega) (by omega)
  have e : floatBits .mul .f64 x y = ((Ieee.double.read x).product (Ieee.double.read y)).map Ieee.double.write := rfl
  rw [e, hm, hn]
  simp only [Ieee.Datum.product, Option.map_some, write_number]
  have q1 : 2 ^ 104 ≤ m * n := by
    rw [show (2 : Nat) ^ 104 = 2 ^ 52 * 2 ^ 52 from (Nat.pow_add 2 52 52)]
    exact Nat.mul_le_mul (by rw [p52]; omega) (by rw [p52]; omega)
  have q2 : m * n < 2 ^ 106 := by
    rw [show (2 : Nat) ^ 106 = 2 ^ 53 * 2 ^ 53 from (Nat.pow_add 2 53 53)]
    exact Nat.mul_lt_mul_of_le_of_lt (by rw [p53]; omega) (by rw [p53]; omega) (Nat.two_pow_pos _)
  generalize m * n = mag at q1 q2
  obtain ⟨g0, g1, g2⟩ := log_range q1 q2
  obtain ⟨E, hE⟩ : ∃ E, E = ex x + ex y + mag.log2 - 1127 := ⟨_, rfl⟩
  have hb := rungOf_bounds mag ((ex x : Int) - 1075 + ((ex y : Int) - 1075)) g0 E (by omega) (by omega) (by omega)
  refine ⟨_, rfl, ?_⟩
  rw [show (false ^^ false) = false from rfl, word_false]
  generalize rungOf mag ((ex x : Int) - 1075 + ((ex y : Int) - 1075)) = r at hb
  have l1 : lo + lo' - 1023 ≤ E := by omega
  have l2 : E + 1 ≤ hi + hi' - 1021 := by omega
  exact ⟨Nat.le_trans (Nat.mul_le_mul_right _ l1) hb.1, Nat.le_trans hb.2 (Nat.mul_le_mul_right _ l2)⟩

/-- A positive whole number as a float. -/
theorem int_norm {d : Int} {k : Nat} (h1 : 0 < d) (h2 : d < 2 ^ k) (hk : k ≤ 64) : Norm 1023 (1023 + k) (floatOfInt .f64 d) := by
  have e : floatOfInt .f64 d = Ieee.double.write (.number (d < 0) d.natAbs 0) := rfl
  rw [e, write_number]
  have hs : decide (d < 0) = false := decide_eq_false (by omega)
  rw [hs, word_false]
  have n0 : d.natAbs ≠ 0 := by omega
  have n2 : d.natAbs < 2 ^ k := by
    have : ((2 ^ k : Nat) : Int) = (2 : Int) ^ k := by simp
    omega
  have g2 := (Nat.log2_lt n0).2 n2
  have hb := rungOf_bounds d.natAbs 0 n0 (1023 + d.natAbs.log2) (by omega) (by omega) (by omega)
  generalize rungOf d.natAbs 0 = r at hb
  exact ⟨Nat.le_trans (Nat.mul_le_mul_right _ (by omega)) hb.1, Nat.le_trans hb.2 (Nat.mul_le_mul_right _ (by omega))⟩

end Go.Proofs.Qxb6601754a
