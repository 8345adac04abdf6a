/-
  Plain facts on float64: what 'nearest' gives, in bounds and exactly; quotient, product and sum of positive numbers.
-/
import Derived.Test.Qxb6601754aBase
namespace Go.Proofs.Qxb6601754a

theorem dFB : ((Ieee.double.fractionBits : Nat) : Int) = 52 := rfl
theorem shl_eq (a b : Nat) : a <<< b = a * 2 ^ b := Nat.shiftLeft_eq a b

/-- How many digits are dropped is small. -/
theorem cut_def (neg : Bool) (n drop : Nat) (h : drop ≤ n.log2 + 2) :
    Ieee.Toward.even.cut neg n drop = n / 2 ^ drop + (decide (2 ^ drop < 2 * (n % 2 ^ drop)) || (2 ^ drop == 2 * (n % 2 ^ drop) && n / 2 ^ drop % 2 == 1)).toNat := by
  unfold Ieee.Toward.cut
  simp only [Nat.min_eq_left h, shl_eq, Nat.one_mul]

theorem cut_ge (neg : Bool) (n drop : Nat) (h : drop ≤ n.log2 + 2) : n / 2 ^ drop ≤ Ieee.Toward.even.cut neg n drop ∧ Ieee.Toward.even.cut neg n drop ≤ n / 2 ^ drop + 1 := by
  rw [cut_def neg n drop h]
  generalize (decide (2 ^ drop < 2 * (n % 2 ^ drop)) || (2 ^ drop == 2 * (n % 2 ^ drop) && n / 2 ^ drop % 2 == 1)) = b
  cases b <;> simp

theorem cut_exact (neg : Bool) (m k : Nat) (h : m ≠ 0) : Ieee.Toward.even.cut neg (m * 2 ^ k) k = m := by
  have hp : 0 < 2 ^ k := Nat.two_pow_pos k
  have hl : k ≤ (m * 2 ^ k).log2 := (Nat.le_log2 (Nat.mul_ne_zero h (by omega))).2 (Nat.le_mul_of_pos_left _ (by omega))
  rw [cut_def neg _ k (by omega), Nat.mul_div_cancel _ hp, Nat.mul_mod_left]
  simp

theorem cut_nought (neg : Bool) (n : Nat) : Ieee.Toward.even.cut neg n 0 = n := by
  rw [cut_def neg n 0 (by omega)]
  simp [Nat.mod_one]

/-- The rung of what 'nearest' gives. -/
def rungOf (mag : Nat) (place : Int) : Nat := Ieee.double.nearest false mag place

theorem nearest_word (neg : Bool) (mag : Nat) (place : Int) : Ieee.double.nearest neg mag place = Ieee.double.word neg (rungOf mag place) := by
  unfold rungOf Ieee.Format.nearest
  split
  · rfl
  · show Ieee.double.word neg _ = Ieee.double.word neg (Ieee.double.word false _)
    have e : ∀ r, Ieee.double.word false r = r := fun r => rfl
    have c : ∀ n d, Ieee.Toward.even.cut false n d = Ieee.Toward.even.cut neg n d := fun n d => rfl
    rw [e, c]

theorem rungOf_eq (mag : Nat) (place : Int) (h : mag ≠ 0) :
    rungOf mag place = min ((max (place + mag.log2 - 52) (-1074) - (-1074)).toNat * 4503599627370496 +
      Ieee.Toward.even.cut false (mag <<< (place - max (place + mag.log2 - 52) (-1074)).toNat) (max (place + mag.log2 - 52) (-1074) - place).toNat) 9218868437227405312 := by
  unfold rungOf Ieee.Format.nearest
  rw [if_neg h]
  simp only [dLP, dBin, dInf, dFB, Ieee.Format.word, Bool.false_eq_true, if_false]

theorem fin1 (E q : Nat) (h1 : 1 ≤ E) (h2 : E ≤ 2045) (k1 : 4503599627370496 ≤ q) (k2 : q ≤ 9007199254740992) :
    E * 4503599627370496 ≤ min ((E - 1) * 4503599627370496 + q) 9218868437227405312 ∧ min ((E - 1) * 4503599627370496 + q) 9218868437227405312 ≤ (E + 1) * 4503599627370496 := by
  obtain ⟨F, rfl⟩ : ∃ F, E = F + 1 := ⟨E - 1, by omega⟩
  rw [Nat.add_sub_cancel]
  omega

theorem p52 : (2 : Nat) ^ 52 = 4503599627370496 := by decide
theorem p53 : (2 : Nat) ^ 53 = 9007199254740992 := by decide

/-- 52 digits more than the leading one: of a small number. -/
theorem up52 (mag : Nat) (h : mag ≠ 0) (hl : mag.log2 ≤ 52) : 4503599627370496 ≤ mag * 2 ^ (52 - mag.log2) ∧ mag * 2 ^ (52 - mag.log2) < 9007199254740992 := by
  have hlo := (Nat.le_log2 (k := mag.log2) h).1 (Nat.le_refl _)
  have hhi := (Nat.log2_lt (k := mag.log2 + 1) h).1 (by omega)
  have k1 : 2 ^ mag.log2 * 2 ^ (52 - mag.log2) ≤ mag * 2 ^ (52 - mag.log2) := Nat.mul_le_mul_right _ hlo
  have k2 : mag * 2 ^ (52 - mag.log2) < 2 ^ (mag.log2 + 1) * 2 ^ (52 - mag.log2) := Nat.mul_lt_mul_of_pos_right hhi (Nat.two_pow_pos _)
  rw [← Nat.pow_add, show mag.log2 + (52 - mag.log2) = 52 by omega, p52] at k1
  rw [← Nat.pow_add, show mag.log2 + 1 + (52 - mag.log2) = 53 by omega, p53] at k2
  exact ⟨k1, k2⟩

/-- .. of a great number. -/
theorem down52 (mag : Nat) (h : mag ≠ 0) (hl : 52 ≤ mag.log2) : 4503599627370496 ≤ mag / 2 ^ (mag.log2 - 52) ∧ mag / 2 ^ (mag.log2 - 52) < 9007199254740992 := by
  have hlo := (Nat.le_log2 (k := mag.log2) h).1 (Nat.le_refl _)
  have hhi := (Nat.log2_lt (k := mag.log2 + 1) h).1 (by omega)
  rw [← p52, ← p53]
  constructor
  · rw [Nat.le_div_iff_mul_le (Nat.two_pow_pos _), ← Nat.pow_add, show 52 + (mag.log2 - 52) = mag.log2 by omega]; exact hlo
  · rw [Nat.div_lt_iff_lt_mul (Nat.two_pow_pos _), ← Nat.pow_add, show 53 + (mag.log2 - 52) = mag.log2 + 1 by omega]; exact hhi

/-- A number within the normal range: between two powers of two. -/
theorem rungOf_bounds (mag : Nat) (place : Int) (h : mag ≠ 0) (E : Nat) (hE : (E : Int) = place + mag.log2 + 1023) (h1 : 1 ≤ E) (h2 : E ≤ 2045) :
    E * 4503599627370496 ≤ rungOf mag place ∧ rungOf mag place ≤ (E + 1) * 4503599627370496 := by
  rw [rungOf_eq mag place h]
  have e0 : max (place + mag.log2 - 52) (-1074) = place + mag.log2 - 52 := by omega
  rw [e0]
  have e1 : (place + mag.log2 - 52 - (-1074)).toNat = E - 1 := by omega
  rw [e1]
  by_cases hl : mag.log2 ≤ 52
  · have e2 : (place - (place + mag.log2 - 52)).toNat = 52 - mag.log2 := by omega
    have e3 : (place + mag.log2 - 52 - place).toNat = 0 := by omega
    rw [e2, e3, cut_nought, shl_eq]
    have k := up52 mag h hl
    exact fin1 E _ h1 h2 k.1 (Nat.le_of_lt k.2)
  · have e2 : (place - (place + mag.log2 - 52)).toNat = 0 := by omega
    have e3 : (place + mag.log2 - 52 - place).toNat = mag.log2 - 52 := by omega
    rw [e2, e3, shl_eq, Nat.pow_zero, Nat.mul_one]
    have hc := cut_ge false mag (mag.log2 - 52) (by omega)
    have k := down52 mag h (by omega)
    exact fin1 E _ h1 h2 (Nat.le_trans k.1 hc.1) (Nat.le_trans hc.2 k.2)

theorem fin2 (j m : Nat) (hj : j ≤ 2045) (h2 : m < 9007199254740992) : min (j * 4503599627370496 + m) 9218868437227405312 = j * 4503599627370496 + m := by omega

theorem pow_ne (k : Nat) : (2 : Nat) ^ k ≠ 0 := Nat.ne_of_gt (Nat.two_pow_pos k)

theorem log2_shift (m k a : Nat) (h1 : 2 ^ a ≤ m) (h2 : m < 2 ^ (a + 1)) : (m * 2 ^ k).log2 = a + k := by
  have hm : m ≠ 0 := by have := Nat.two_pow_pos a; omega
  have hne : m * 2 ^ k ≠ 0 := Nat.mul_ne_zero hm (pow_ne k)
  have x : a + k ≤ (m * 2 ^ k).log2 := (Nat.le_log2 hne).2 (by rw [Nat.pow_add]; exact Nat.mul_le_mul_right _ h1)
  have y : (m * 2 ^ k).log2 < a + 1 + k := (Nat.log2_lt hne).2 (by rw [Nat.pow_add]; exact Nat.mul_lt_mul_of_pos_right h2 (Nat.two_pow_pos _))
  omega

/-- A normal number of the format is hit exactly. -/
theorem rungOf_normal (m k : Nat) (i : Int) (h1 : 4503599627370496 ≤ m) (h2 : m < 9007199254740992) (hi : -1074 ≤ i) (hi2 : i ≤ 971) :
    rungOf (m * 2 ^ k) (i - k) = (i + 1074).toNat * 4503599627370496 + m := by
  have hm : m ≠ 0 := by omega
  have hl : (m * 2 ^ k).log2 = 52 + k := log2_shift m k 52 (by rw [p52]; exact h1) (by rw [p53]; exact h2)
  rw [rungOf_eq _ _ (Nat.mul_ne_zero hm (pow_ne k)), hl]
  have e0 : max (i - k + ((52 + k : Nat) : Int) - 52) (-1074) = i := by omega
  rw [e0]
  have e2 : (i - k - i).toNat = 0 := by omega
  have e3 : (i - (i - k)).toNat = k := by omega
  rw [e2, e3, shl_eq, Nat.pow_zero, Nat.mul_one, cut_exact _ _ _ hm]
  have e4 : (i - (-1074)).toNat = (i + 1074).toNat := by omega
  rw [e4]
  exact fin2 _ _ (by omega) h2

/-- A subnormal number of the format is hit exactly. -/
theorem rungOf_subnormal (m k : Nat) (h0 : m ≠ 0) (h2 : m < 4503599627370496) :
    rungOf (m * 2 ^ k) (-1074 - k) = m := by
  have hne : m * 2 ^ k ≠ 0 := Nat.mul_ne_zero h0 (pow_ne k)
  have hl : (m * 2 ^ k).log2 < 52 + k := (Nat.log2_lt hne).2 (by rw [Nat.pow_add, p52]; exact Nat.mul_lt_mul_of_pos_right h2 (Nat.two_pow_pos _))
  rw [rungOf_eq _ _ hne]
  generalize (m * 2 ^ k).log2 = L at hl
  have e0 : max (-1074 - (k : Int) + (L : Int) - 52) (-1074) = -1074 := by omega
  rw [e0]
  have e2 : (-1074 - (k : Int) - (-1074)).toNat = 0 := by omega
  have e3 : (-1074 - (-1074 - (k : Int))).toNat = k := by omega
  rw [e2, e3, shl_eq, Nat.pow_zero, Nat.mul_one, cut_exact _ _ _ h0]
  have e4 : ((-1074 : Int) - (-1074)).toNat = 0 := by omega
  rw [e4, Nat.zero_mul, Nat.zero_add]
  exact Nat.min_eq_left (by omega)

/-- The positive normal numbers, read. -/
theorem read_normal {x : Nat} (h1 : 4503599627370496 ≤ x) (h2 : x < 9218868437227405312) :
    Ieee.double.read x = .number false (4503599627370496 + x % 4503599627370496) (-1074 + ((x / 4503599627370496 - 1 : Nat) : Int)) := by
  unfold Ieee.Format.read
  simp only [dSW, dBin, dInf, dLP]
  have a : x % 9223372036854775808 = x := Nat.mod_eq_of_lt (by omega)
  have b : (x / 9223372036854775808 % 2 == 1) = false := by
    rw [Nat.div_eq_of_lt (by omega)]; rfl
  rw [a, b, if_neg (by omega), if_pos h2]

theorem read_small {x : Nat} (h1 : x < 4503599627370496) : Ieee.double.read x = .number false x (-1074) := by
  unfold Ieee.Format.read
  simp only [dSW, dBin, dLP]
  have a : x % 9223372036854775808 = x := Nat.mod_eq_of_lt (by omega)
  have b : (x / 9223372036854775808 % 2 == 1) = false := by
    rw [Nat.div_eq_of_lt (by omega)]; rfl
  rw [a, b, if_pos h1]
end Go.Proofs.Qxb6601754a
