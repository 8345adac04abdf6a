/-
  Plain facts on float64: one, nought and a number by itself.
-/
import Derived.Test.Qxb6601754aRate
namespace Go.Proofs.Qxb6601754a

theorem int_one : floatOfInt .f64 1 = 4607182418800017408 := by decide +kernel
theorem gap_zero : gapF 0 = some 0 := by decide +kernel

theorem one_read : Ieee.double.read 4607182418800017408 = .number false 4503599627370496 (-52) := by
  decide +kernel

/-- A normal number, taken apart. -/
theorem read_parts {x : Nat} (h1 : 1 ≤ ex x) (h2 : ex x ≤ 2046) :
    ∃ m, 4503599627370496 ≤ m ∧ m < 9007199254740992 ∧ Ieee.double.read x = .number false m ((ex x : Int) - 1075) ∧ (ex x - 1) * 4503599627370496 + m = x := by
  unfold ex at *
  refine ⟨4503599627370496 + x % 4503599627370496, by omega, by omega, ?_, ?_⟩
  · rw [read_normal (by omega) (by omega)]
    congr 1
    omega
  · have := Nat.div_add_mod x 4503599627370496
    generalize x / 4503599627370496 = q at *
    generalize x % 4503599627370496 = r at *
    obtain ⟨p, rfl⟩ : ∃ p, q = p + 1 := ⟨q - 1, by omega⟩
    rw [Nat.add_sub_cancel]
    omega

theorem rung_back {x m : Nat} (k : Nat) (h1 : 1 ≤ ex x) (h2 : ex x ≤ 2046) (m1 : 4503599627370496 ≤ m) (m2 : m < 9007199254740992) (hx : (ex x - 1) * 4503599627370496 + m = x) :
    rungOf (m * 2 ^ k) ((ex x : Int) - 1075 - k) = x := by
  rw [rungOf_normal m k ((ex x : Int) - 1075) m1 m2 (by omega) (by omega)]
  have e : ((ex x : Int) - 1075 + 1074).toNat = ex x - 1 := by omega
  rw [e]
  exact hx

theorem div_one {x : Nat} (h1 : 1 ≤ ex x) (h2 : ex x ≤ 2046) : floatBits .quo .f64 x 4607182418800017408 = some x := by
  obtain ⟨m, m1, m2, hm, hx⟩ := read_parts h1 h2
  have e : floatBits .quo .f64 x 4607182418800017408 = ((Ieee.double.read x).quotient (Ieee.double.fractionBits + 2) (Ieee.double.read 4607182418800017408)).map Ieee.double.write := rfl
  rw [e, hm, one_read]
  have ef : Ieee.double.fractionBits + 2 + Nat.log2 4503599627370496 - m.log2 = 54 := by
    rw [log52 m1 m2, log52 (Nat.le_refl _) (by omega)]; rfl
  have n0 : (4503599627370496 : Nat) ≠ 0 := by omega
  simp only [Ieee.Datum.quotient, if_neg n0, Option.map_some, ef, shl_eq, write_number]
  have d1 : m * 2 ^ 54 / 4503599627370496 = m * 4 := by
    rw [show (2 : Nat) ^ 54 = 4 * 4503599627370496 from by decide, ← Nat.mul_assoc, Nat.mul_div_cancel _ (by omega)]
  have d2 : m * 2 ^ 54 % 4503599627370496 = 0 := by
    rw [show (2 : Nat) ^ 54 = 4 * 4503599627370496 from by decide, ← Nat.mul_assoc, Nat.mul_mod_left]
  rw [d1, d2]
  have d3 : 2 * (m * 4) + ((0 : Nat) != 0).toNat = m * 2 ^ 3 := by simp; omega
  rw [d3]
  have hp : (ex x : Int) - 1075 - -52 - ((54 : Nat) : Int) - 1 = (ex x : Int) - 1075 - ((3 : Nat) : Int) := by omega
  rw [hp, rung_back 3 h1 h2 m1 m2 hx, show (false ^^ false) = false from rfl, word_false]

theorem div_self {x : Nat} (h1 : 1 ≤ ex x) (h2 : ex x ≤ 2046) : floatBits .quo .f64 x x = some 4607182418800017408 := by
  obtain ⟨m, m1, m2, hm, hx⟩ := read_parts h1 h2
  have e : floatBits .quo .f64 x x = ((Ieee.double.read x).quotient (Ieee.double.fractionBits + 2) (Ieee.double.read x)).map Ieee.double.write := rfl
  rw [e, hm]
  have ef : Ieee.double.fractionBits + 2 + m.log2 - m.log2 = 54 := by
    rw [Nat.add_sub_cancel]; rfl
  have n0 : m ≠ 0 := by omega
  simp only [Ieee.Datum.quotient, if_neg n0, Option.map_some, ef, shl_eq, write_number]
  rw [Nat.mul_div_cancel_left _ (by omega), Nat.mul_mod_right]
  have d3 : 2 * 2 ^ 54 + ((0 : Nat) != 0).toNat = 4503599627370496 * 2 ^ 3 := by decide
  rw [d3]
  have hp : (ex x : Int) - 1075 - ((ex x : Int) - 1075) - ((54 : Nat) : Int) - 1 = -52 - ((3 : Nat) : Int) := by omega
  rw [hp, rungOf_normal 4503599627370496 3 (-52) (by omega) (by omega) (by omega) (by omega), show (false ^^ false) = false from rfl, word_false]
  rfl

theorem add_nought {x : Nat} (h1 : 1 ≤ ex x) (h2 : ex x ≤ 2046) : floatBits .add .f64 x 0 = some x := by
  obtain ⟨m, m1, m2, hm, hx⟩ := read_parts h1 h2
  have e : floatBits .add .f64 x 0 = ((Ieee.double.read x).sum (Ieee.double.read 0)).map Ieee.double.write := rfl
  rw [e, hm, read_small (by omega : 0 < 4503599627370496)]
  simp only [Ieee.Datum.sum, Option.map_some, write_number]
  have hb : min ((ex x : Int) - 1075) (-1074) = -1074 ∨ min ((ex x : Int) - 1075) (-1074) = (ex x : Int) - 1075 := by omega
  have hmin : min ((ex x : Int) - 1075) (-1074) = -1074 := by omega
  rw [hmin]
  have s0 : ∀ k, Ieee.signed false 0 k = 0 := by intro k; unfold Ieee.signed; rw [shl_eq, Nat.zero_mul]; rfl
  have s1 : ∀ k, Ieee.signed false m k = ((m * 2 ^ k : Nat) : Int) := by intro k; unfold Ieee.signed; rw [shl_eq]; rfl
  rw [s0, s1]
  have hk : ((ex x : Int) - 1075 - -1074).toNat = ex x - 1 := by omega
  rw [hk, Int.add_zero, Int.natAbs_natCast]
  have hne : ((m * 2 ^ (ex x - 1) : Nat) : Int) ≠ 0 := by
    have := Nat.mul_ne_zero (show m ≠ 0 by omega) (pow_ne (ex x - 1))
    omega
  rw [if_neg hne, show decide (((m * 2 ^ (ex x - 1) : Nat) : Int) < 0) = false from decide_eq_false (by omega), word_false]
  have hp : (-1074 : Int) = (ex x : Int) - 1075 - ((ex x - 1 : Nat) : Int) := by omega
  rw [hp, rung_back (ex x - 1) h1 h2 m1 m2 hx]

theorem nought_lt {h : Nat} (h1 : 1 ≤ ex h) (h2 : ex h ≤ 2046) : FloatKind.f64.format.order 0 h = some .lt := by
  obtain ⟨m, m1, m2, hm, _⟩ := read_parts h1 h2
  have e : FloatKind.f64.format.order 0 h = (Ieee.double.read 0).order (Ieee.double.read h) := rfl
  rw [e, hm, read_small (by omega : 0 < 4503599627370496)]
  simp only [Ieee.Datum.order]
  have s0 : ∀ k, Ieee.signed false 0 k = 0 := by intro k; unfold Ieee.signed; rw [shl_eq, Nat.zero_mul]; rfl
  have s1 : ∀ k, 0 < Ieee.signed false m k := by
    intro k; unfold Ieee.signed
    have := shl_ne (m := m) (k := k) (by omega)
    simp only [Bool.false_eq_true, if_false]
    generalize m <<< k = z at this
    omega
  rw [s0]
  have := s1 ((ex h : Int) - 1075 - min (-1074) ((ex h : Int) - 1075)).toNat
  rw [Int.compare_eq_lt.2 this]

/-- A float is the word of its sign and its rung. -/
theorem word_back {x : Nat} (h : x < 18446744073709551616) : Ieee.double.word (x / 9223372036854775808 % 2 == 1) (x % 9223372036854775808) = x := by
  unfold Ieee.Format.word
  rw [dSW]
  by_cases hx : x < 9223372036854775808
  · rw [Nat.div_eq_of_lt hx, Nat.mod_eq_of_lt hx]; rfl
  · have e1 : x / 9223372036854775808 = 1 := by omega
    rw [e1]
    have e2 : 9223372036854775808 + x % 9223372036854775808 = x := by omega
    simpa using e2

theorem mul_one {x : Nat} (h : x < 18446744073709551616) (hr : x % 9223372036854775808 ≤ 9218868437227405312) : floatBits .mul .f64 x 4607182418800017408 = some x := by
  have e : floatBits .mul .f64 x 4607182418800017408 = ((Ieee.double.read x).product (Ieee.double.read 4607182418800017408)).map Ieee.double.write := rfl
  rw [e, one_read]
  have hb := word_back h
  generalize hs : (x / 9223372036854775808 % 2 == 1) = s at hb
  have hlt : x % 9223372036854775808 < 9223372036854775808 := Nat.mod_lt _ (by omega)
  generalize x % 9223372036854775808 = g at hb hr hlt
  rw [← hb, read_word s g hlt]
  have n0 : (4503599627370496 : Nat) ≠ 0 := by omega
  have hxor : (s ^^ false) = s := by cases s <;> rfl
  by_cases g1 : g < 4503599627370496
  · rw [read_small g1]
    simp only [withSign, Ieee.Datum.product, Option.map_some, write_number, hxor]
    by_cases g0 : g = 0
    · rw [g0, Nat.zero_mul, rungOf_zero]
    · have e52 : (4503599627370496 : Nat) = 2 ^ 52 := by decide
      rw [e52, show (-1074 : Int) + -52 = -1074 - ((52 : Nat) : Int) by omega, rungOf_subnormal g 52 g0 g1]
  · by_cases g2 : g < 9218868437227405312
    · have x1 : 1 ≤ ex g := by unfold ex; omega
      have x2 : ex g ≤ 2046 := by unfold ex; omega
      obtain ⟨m, m1, m2, hm, hx⟩ := read_parts x1 x2
      rw [hm]
      simp only [withSign, Ieee.Datum.product, Option.map_some, write_number, hxor]
      have e52 : (4503599627370496 : Nat) = 2 ^ 52 := by decide
      rw [show m * 4503599627370496 = m * 2 ^ 52 by rw [e52], show (ex g : Int) - 1075 + -52 = (ex g : Int) - 1075 - ((52 : Nat) : Int) by omega, rung_back 52 x1 x2 m1 m2 hx]
    · obtain rfl : g = 9218868437227405312 := by omega
      rw [read_inf]
      simp only [withSign, Ieee.Datum.product, if_neg n0, Option.map_some, write_inf, hxor]
end Go.Proofs.Qxb6601754a
