/-
  Plain facts on float64: sums and differences of finite numbers.
-/
import Derived.Test.Qxb6601754aMono
namespace Go.Proofs.Qxb6601754a

/-- A finite float, in least units. -/
def fv (x : Nat) : Int := if (x / 9223372036854775808 % 2 == 1) = true then -(val (x % 9223372036854775808) : Int) else (val (x % 9223372036854775808) : Int)

/-- Finite. -/
def FinF (x : Nat) : Prop := x % 9223372036854775808 < 9218868437227405312

theorem signed_add (s : Bool) (m a b : Nat) : Ieee.signed s m (a + b) = Ieee.signed s m a * 2 ^ b := by
  unfold Ieee.signed
  rw [shl_eq, shl_eq, Nat.pow_add, ← Nat.mul_assoc]
  cases s <;> simp [Int.neg_mul]

theorem read_fin {x : Nat} (h : FinF x) : ∃ s m i, Ieee.double.read x = .number s m i ∧ -1074 ≤ i ∧ Ieee.signed s m (i + 1074).toNat = fv x := by
  unfold FinF at h
  unfold Ieee.Format.read fv val
  simp only [dSW, dBin, dInf, dLP]
  generalize (x / 9223372036854775808 % 2 == 1) = s
  generalize x % 9223372036854775808 = g at h
  by_cases h1 : g < 4503599627370496
  · refine ⟨s, g, -1074, by rw [if_pos h1], by omega, ?_⟩
    rw [if_pos h1]
    unfold Ieee.signed
    rw [show ((-1074 : Int) + 1074).toNat = 0 by omega, shl_eq, Nat.pow_zero, Nat.mul_one]
  · refine ⟨s, 4503599627370496 + g % 4503599627370496, -1074 + ((g / 4503599627370496 - 1 : Nat) : Int), by rw [if_neg h1, if_pos h], by omega, ?_⟩
    rw [if_neg h1]
    unfold Ieee.signed
    rw [show (-1074 + ((g / 4503599627370496 - 1 : Nat) : Int) + 1074).toNat = g / 4503599627370496 - 1 by omega, shl_eq]

theorem pow_pos_int (k : Nat) : (0 : Int) < 2 ^ k := by
  have := Nat.two_pow_pos k
  have e : ((2 ^ k : Nat) : Int) = (2 : Int) ^ k := by simp
  omega

/-- The exact sum of two numbers, in the smaller place and in least units. -/
theorem total_units (s t : Bool) (m n : Nat) (i j : Int) (hi : -1074 ≤ i) (hj : -1074 ≤ j) :
    (Ieee.signed s m (i - min i j).toNat + Ieee.signed t n (j - min i j).toNat) * 2 ^ (min i j + 1074).toNat = Ieee.signed s m (i + 1074).toNat + Ieee.signed t n (j + 1074).toNat := by
  rw [Int.add_mul, ← signed_add, ← signed_add]
  congr 2 <;> omega

theorem sum_write (s t : Bool) (m n : Nat) (i j : Int) (hi : -1074 ≤ i) (hj : -1074 ≤ j) (S : Int) (hS : Ieee.signed s m (i + 1074).toNat + Ieee.signed t n (j + 1074).toNat = S) :
    ∃ neg, ((Ieee.Datum.number s m i).sum (.number t n j)).map Ieee.double.write = some (Ieee.double.word neg (R S.natAbs)) ∧ (S < 0 → neg = true) ∧ (0 < S → neg = false) := by
  have ht := total_units s t m n i j hi hj
  rw [hS] at ht
  simp only [Ieee.Datum.sum, Option.map_some, write_number]
  have hb : -1074 ≤ min i j := by omega
  generalize Ieee.signed s m (i - min i j).toNat + Ieee.signed t n (j - min i j).toNat = U at ht
  have hp := pow_pos_int (min i j + 1074).toNat
  have hR : rungOf U.natAbs (min i j) = R S.natAbs := by
    rw [rungOf_R _ _ hb, ← ht, Int.natAbs_mul]
    congr 2
  rw [hR]
  refine ⟨_, rfl, fun h => ?_, fun h => ?_⟩
  · have hU : U < 0 := by
      apply Int.not_le.1
      intro hle
      have := Int.mul_nonneg hle (Int.le_of_lt hp)
      omega
    rw [if_neg (by omega)]
    exact decide_eq_true hU
  · have hU : 0 < U := by
      apply Int.not_le.1
      intro hle
      have := Int.mul_nonneg (show 0 ≤ -U by omega) (Int.le_of_lt hp)
      rw [Int.neg_mul] at this
      omega
    rw [if_neg (by omega)]
    exact decide_eq_false (by omega)

theorem add_fin {x y : Nat} (hx : FinF x) (hy : FinF y) : ∃ neg, floatBits .add .f64 x y = some (Ieee.double.word neg (R (fv x + fv y).natAbs)) ∧ (fv x + fv y < 0 → neg = true) ∧ (0 < fv x + fv y → neg = false) := by
  obtain ⟨s, m, i, e1, i1, f1⟩ := read_fin hx
  obtain ⟨t, n, j, e2, j1, f2⟩ := read_fin hy
  have e : floatBits .add .f64 x y = ((Ieee.double.read x).sum (Ieee.double.read y)).map Ieee.double.write := rfl
  rw [e, e1, e2]
  exact sum_write s t m n i j i1 j1 _ (by rw [f1, f2])

theorem sub_fin {x y : Nat} (hx : FinF x) (hy : FinF y) : ∃ neg, floatBits .sub .f64 x y = some (Ieee.double.word neg (R (fv x - fv y).natAbs)) ∧ (fv x - fv y < 0 → neg = true) ∧ (0 < fv x - fv y → neg = false) := by
  obtain ⟨s, m, i, e1, i1, f1⟩ := read_fin hx
  obtain ⟨t, n, j, e2, j1, f2⟩ := read_fin hy
  have e : floatBits .sub .f64 x y = ((Ieee.double.read x).sum (Ieee.double.read y).opposite).map Ieee.double.write := rfl
  rw [e, e1, e2]
  exact sum_write s (!t) m n i j i1 j1 _ (by rw [f1, signed_opp, f2, Int.sub_eq_add_neg])

/-- The order of finite floats. -/
theorem order_fin {x y : Nat} (hx : FinF x) (hy : FinF y) : FloatKind.f64.format.order x y = some .lt ↔ fv x < fv y := by
  obtain ⟨s, m, i, e1, i1, f1⟩ := read_fin hx
  obtain ⟨t, n, j, e2, j1, f2⟩ := read_fin hy
  have e : FloatKind.f64.format.order x y = (Ieee.double.read x).order (Ieee.double.read y) := rfl
  rw [e, e1, e2]
  simp only [Ieee.Datum.order, Option.some.injEq, Int.compare_eq_lt]
  have hp := pow_pos_int (min i j + 1074).toNat
  have g1 : Ieee.signed s m (i - min i j).toNat * 2 ^ (min i j + 1074).toNat = fv x := by
    rw [← signed_add, ← f1]; congr 1; omega
  have g2 : Ieee.signed t n (j - min i j).toNat * 2 ^ (min i j + 1074).toNat = fv y := by
    rw [← signed_add, ← f2]; congr 1; omega
  rw [← g1, ← g2]
  generalize Ieee.signed s m (i - min i j).toNat = u
  generalize Ieee.signed t n (j - min i j).toNat = v
  generalize (2 : Int) ^ (min i j + 1074).toNat = P at hp
  constructor
  · intro h; exact Int.mul_lt_mul_of_pos_right h hp
  · intro h; exact Int.lt_of_mul_lt_mul_right h (Int.le_of_lt hp)

theorem fin_nonneg {x : Nat} (hx : FinF x) (h : nonneg (Ieee.double.read x)) : 0 ≤ fv x := by
  obtain ⟨s, m, i, e1, i1, f1⟩ := read_fin hx
  rw [e1] at h
  rw [← f1]
  exact signed_nonneg h

theorem fv_pos_word {r : Nat} (h : r < 9223372036854775808) : fv r = val r := by
  unfold fv
  rw [Nat.div_eq_of_lt h, Nat.mod_eq_of_lt h]
  rfl

theorem fv_neg_word {r : Nat} (h : r < 9223372036854775808) : fv (Ieee.double.word true r) = -(val r : Int) := by
  have hm := word_mod true r h
  unfold fv
  rw [hm]
  have hd : (Ieee.double.word true r / 9223372036854775808 % 2 == 1) = true := by
    unfold Ieee.Format.word
    rw [dSW]
    simp only [if_true]
    rw [show (9223372036854775808 + r) / 9223372036854775808 = 1 by omega]; rfl
  rw [if_pos hd]

theorem R_le (N : Nat) : R N ≤ 9218868437227405312 := rungOf_le _ _

/-- A sum that is not below zero. -/
theorem add_nn {x y : Nat} (hx : FinF x) (hy : FinF y) (h : 0 ≤ fv x + fv y) : ∃ r, floatBits .add .f64 x y = some r ∧ nonneg (Ieee.double.read r) := by
  obtain ⟨neg, e, _, h2⟩ := add_fin hx hy
  refine ⟨_, e, ?_⟩
  have hle := R_le (fv x + fv y).natAbs
  by_cases hz : 0 < fv x + fv y
  · rw [h2 hz, word_false]; exact nonneg_bits hle
  · have h0 : fv x + fv y = 0 := by omega
    rw [h0]
    show nonneg (Ieee.double.read (Ieee.double.word neg (R 0)))
    have hR0 : R 0 = 0 := rungOf_zero _
    rw [hR0, read_word _ _ (by omega), read_small (by omega)]
    exact .inr rfl

theorem val_pow (K : Nat) (h1 : 1 ≤ K) : val (K * 4503599627370496) = 4503599627370496 * 2 ^ (K - 1) := by
  unfold val
  rw [if_neg (by omega), Nat.mul_mod_left, Nat.mul_div_cancel _ (by omega), Nat.add_zero]

theorem norm_lt {lo hi x : Nat} (h : Norm lo hi x) (h2 : hi ≤ 2046) : x < 9218868437227405312 := by
  obtain ⟨_, b⟩ := h; omega

theorem norm_fin {lo hi x : Nat} (h : Norm lo hi x) (h2 : hi ≤ 2046) : FinF x ∧ fv x = val x := by
  have hb := norm_lt h h2
  refine ⟨?_, fv_pos_word (by omega)⟩
  unfold FinF; rw [Nat.mod_eq_of_lt (by omega)]; exact hb

theorem val_norm {lo hi x : Nat} (h : Norm lo hi x) (h1 : 1 ≤ hi) (h2 : hi ≤ 2046) : val x ≤ 4503599627370496 * 2 ^ (hi - 1) := by
  rw [← val_pow hi h1]
  exact val_mono (norm_lt h h2) (by omega) h.2

theorem pow_le {a b : Nat} (h : a ≤ b) : (4503599627370496 : Nat) * 2 ^ a ≤ 4503599627370496 * 2 ^ b := Nat.mul_le_mul_left _ (Nat.pow_le_pow_right (by omega) h)

/-- A positive number and something not below zero that is no greater than a power of two. -/
theorem add_norm {lo hi g y K : Nat} (hg : Norm lo hi g) (h1 : 1 ≤ lo) (hK : hi ≤ K) (hK2 : K ≤ 2045) (h3 : 1 ≤ hi) (hy : FinF y) (hy0 : 0 ≤ fv y) (hyK : fv y ≤ ((4503599627370496 * 2 ^ (K - 1) : Nat) : Int)) :
    ∃ r, floatBits .add .f64 g y = some r ∧ Norm lo (K + 1) r := by
  obtain ⟨fg, eg⟩ := norm_fin hg (by omega)
  have hgl := norm_lt hg (by omega)
  have hvg : val g ≤ 4503599627370496 * 2 ^ (K - 1) := Nat.le_trans (val_norm hg h3 (by omega)) (pow_le (by omega))
  have hg0 : 0 < val g := by
    unfold val
    obtain ⟨a, _⟩ := hg
    rw [if_neg (by omega)]
    exact Nat.mul_pos (by omega) (Nat.two_pow_pos _)
  obtain ⟨neg, e, _, hneg⟩ := add_fin fg hy
  rw [eg] at e hneg
  rw [hneg (by omega), word_false] at e
  refine ⟨_, e, ?_, ?_⟩
  · have hm : R (val g) ≤ R ((val g : Int) + fv y).natAbs := R_mono (by omega)
    rw [R_val hgl] at hm
    exact Nat.le_trans hg.1 hm
  · have hKd : 4503599627370496 * 2 ^ (K - 1) + 4503599627370496 * 2 ^ (K - 1) = val ((K + 1) * 4503599627370496) := by
      rw [val_pow (K + 1) (by omega), Nat.add_sub_cancel]
      obtain ⟨k, rfl⟩ : ∃ k, K = k + 1 := ⟨K - 1, by omega⟩
      rw [Nat.add_sub_cancel, Nat.pow_succ]
      generalize 2 ^ k = P
      omega
    have hm : R ((val g : Int) + fv y).natAbs ≤ R (val ((K + 1) * 4503599627370496)) := R_mono (by
      rw [← hKd]
      generalize 4503599627370496 * 2 ^ (K - 1) = P at *
      omega)
    rw [R_val (by omega)] at hm
    exact hm
end Go.Proofs.Qxb6601754a
