/-
  Plain facts on float64: rounding keeps the order; sums of finite numbers as whole numbers of the least unit.
-/
import Derived.Test.Qxb6601754aOne
namespace Go.Proofs.Qxb6601754a

/-- The rung of the whole number of least units nearest to 'N' of them. -/
def R (N : Nat) : Nat := rungOf N (-1074)

theorem cut_scale (neg : Bool) (m d k : Nat) (hm : m ≠ 0) (hd : d ≤ m.log2 + 2) : Ieee.Toward.even.cut neg (m * 2 ^ k) (d + k) = Ieee.Toward.even.cut neg m d := by
  have hk : 0 < 2 ^ k := Nat.two_pow_pos k
  have hl : (m * 2 ^ k).log2 = m.log2 + k := log2_shift m k m.log2 (Nat.log2_self_le hm) (Nat.lt_log2_self)
  rw [cut_def neg _ _ (by omega), cut_def neg _ _ hd, Nat.pow_add, Nat.mul_div_mul_right _ _ hk, Nat.mul_mod_mul_right, ← Nat.mul_assoc 2]
  have e1 : decide (2 ^ d * 2 ^ k < 2 * (m % 2 ^ d) * 2 ^ k) = decide (2 ^ d < 2 * (m % 2 ^ d)) := by
    rw [decide_eq_decide]
    exact ⟨fun h => Nat.lt_of_mul_lt_mul_right h, fun h => Nat.mul_lt_mul_of_pos_right h hk⟩
  have e2 : (2 ^ d * 2 ^ k == 2 * (m % 2 ^ d) * 2 ^ k) = (2 ^ d == 2 * (m % 2 ^ d)) := by
    rw [Bool.eq_iff_iff, beq_iff_eq, beq_iff_eq]
    exact ⟨fun h => Nat.eq_of_mul_eq_mul_right hk h, fun h => congrArg (· * 2 ^ k) h⟩
  rw [e1, e2]

theorem rungOf_scale (m : Nat) (p : Int) (k : Nat) (hm : m ≠ 0) (hp : -1074 ≤ p) : rungOf (m * 2 ^ k) (p - k) = rungOf m p := by
  have hne : m * 2 ^ k ≠ 0 := Nat.mul_ne_zero hm (pow_ne k)
  have hl : (m * 2 ^ k).log2 = m.log2 + k := log2_shift m k m.log2 (Nat.log2_self_le hm) (Nat.lt_log2_self)
  rw [rungOf_eq _ _ hne, rungOf_eq _ _ hm, hl]
  have el : max (p - k + ((m.log2 + k : Nat) : Int) - 52) (-1074) = max (p + m.log2 - 52) (-1074) := by omega
  rw [el]
  have hlast : max (p + m.log2 - 52) (-1074) = p + m.log2 - 52 ∨ max (p + m.log2 - 52) (-1074) = -1074 := by omega
  have hge : p + m.log2 - 52 ≤ max (p + m.log2 - 52) (-1074) := by omega
  generalize max (p + m.log2 - 52) (-1074) = last at *
  by_cases h1 : last ≤ p - k
  · have a1 : (last - p).toNat = 0 := by omega
    have a2 : (last - (p - k)).toNat = 0 := by omega
    rw [a1, a2, cut_nought, cut_nought, shl_eq, shl_eq, Nat.mul_assoc, ← Nat.pow_add, show k + (p - k - last).toNat = (p - last).toNat by omega]
  · by_cases h2 : last ≤ p
    · have a1 : (last - p).toNat = 0 := by omega
      have a2 : (p - k - last).toNat = 0 := by omega
      rw [a1, a2, cut_nought, shl_eq, shl_eq, Nat.pow_zero, Nat.mul_one]
      obtain ⟨j, hj⟩ : ∃ j, j = (last - (p - k)).toNat := ⟨_, rfl⟩
      have e : m * 2 ^ k = m * 2 ^ (p - last).toNat * 2 ^ j := by
        rw [Nat.mul_assoc, ← Nat.pow_add, show (p - last).toNat + j = k by omega]
      rw [← hj, e, cut_exact _ _ _ (Nat.mul_ne_zero hm (pow_ne _))]
    · have a1 : (p - last).toNat = 0 := by omega
      have a2 : (p - k - last).toNat = 0 := by omega
      rw [a1, a2, shl_eq, shl_eq, Nat.pow_zero, Nat.mul_one, Nat.mul_one, show (last - (p - k)).toNat = (last - p).toNat + k by omega, cut_scale _ _ _ _ hm (by omega)]

theorem rungOf_R (m : Nat) (p : Int) (hp : -1074 ≤ p) : rungOf m p = R (m * 2 ^ (p + 1074).toNat) := by
  unfold R
  by_cases hm : m = 0
  · rw [hm, Nat.zero_mul, rungOf_zero, rungOf_zero]
  · rw [← rungOf_scale m p (p + 1074).toNat hm hp]
    congr 1
    omega

/-- What 'R' gives beneath and above the first full significand. -/
theorem R_small {N : Nat} (h : N < 9007199254740992) : R N = N := by
  by_cases h0 : N = 0
  · rw [h0]; exact rungOf_zero _
  · unfold R
    by_cases h1 : N < 4503599627370496
    · have := rungOf_subnormal N 0 h0 h1
      rw [Nat.pow_zero, Nat.mul_one] at this
      exact this
    · have := rungOf_normal N 0 (-1074) (by omega) h (by omega) (by omega)
      rw [Nat.pow_zero, Nat.mul_one] at this
      have e : (-1074 : Int) - ((0 : Nat) : Int) = -1074 := by omega
      rw [e] at this
      rw [this]
      have e2 : ((-1074 : Int) + 1074).toNat = 0 := by omega
      rw [e2]; omega

theorem R_great {N : Nat} (h : 9007199254740992 ≤ N) : R N = min ((N.log2 - 52) * 4503599627370496 + Ieee.Toward.even.cut false N (N.log2 - 52)) 9218868437227405312 := by
  have h0 : N ≠ 0 := by omega
  have hl : 53 ≤ N.log2 := (Nat.le_log2 h0).2 (by rw [p53]; exact h)
  unfold R
  rw [rungOf_eq _ _ h0]
  have e0 : max (-1074 + (N.log2 : Int) - 52) (-1074) = -1074 + (N.log2 : Int) - 52 := by omega
  rw [e0]
  have e1 : (-1074 + (N.log2 : Int) - 52 - -1074).toNat = N.log2 - 52 := by omega
  have e2 : (-1074 - (-1074 + (N.log2 : Int) - 52)).toNat = 0 := by omega
  rw [e1, e2, shl_eq, Nat.pow_zero, Nat.mul_one]

theorem cut_mono (neg : Bool) (m n d : Nat) (hm : d ≤ m.log2 + 2) (hn : d ≤ n.log2 + 2) (h : m ≤ n) : Ieee.Toward.even.cut neg m d ≤ Ieee.Toward.even.cut neg n d := by
  have hq : m / 2 ^ d ≤ n / 2 ^ d := Nat.div_le_div_right h
  by_cases he : m / 2 ^ d = n / 2 ^ d
  · rw [cut_def neg m d hm, cut_def neg n d hn, he]
    have hr : m % 2 ^ d ≤ n % 2 ^ d := by
      have a := Nat.div_add_mod m (2 ^ d)
      have b := Nat.div_add_mod n (2 ^ d)
      rw [he] at a
      omega
    generalize m % 2 ^ d = r at hr
    generalize n % 2 ^ d = s at hr
    generalize n / 2 ^ d % 2 = u
    generalize 2 ^ d = g
    apply Nat.add_le_add_left
    by_cases h1 : g < 2 * r
    · rw [decide_eq_true h1, decide_eq_true (show g < 2 * s by omega)]; simp
    · rw [decide_eq_false h1]
      by_cases h2 : g = 2 * r
      · by_cases h3 : g < 2 * s
        · rw [decide_eq_true h3]; simp; exact Bool.toNat_le _
        · have e : s = r := by omega
          rw [e, decide_eq_false h1]; exact Nat.le_refl _
      · have : (g == 2 * r) = false := beq_eq_false_iff_ne.2 h2
        rw [this]; simp
  · have a := (cut_ge neg m d hm).2
    have b := (cut_ge neg n d hn).1
    omega

theorem R_mono {M N : Nat} (h : M ≤ N) : R M ≤ R N := by
  by_cases hN : N < 9007199254740992
  · rw [R_small hN, R_small (by omega)]; exact h
  · rw [R_great (N := N) (by omega)]
    have n0 : N ≠ 0 := by omega
    have hl : 53 ≤ N.log2 := (Nat.le_log2 n0).2 (by rw [p53]; omega)
    have kN := down52 N n0 (by omega)
    have cN := cut_ge false N (N.log2 - 52) (by omega)
    by_cases hM : M < 9007199254740992
    · rw [R_small hM]
      generalize Ieee.Toward.even.cut false N (N.log2 - 52) = c at *
      generalize N / 2 ^ (N.log2 - 52) = q at *
      generalize N.log2 = L at *
      have : 4503599627370496 ≤ (L - 52) * 4503599627370496 := Nat.le_mul_of_pos_left _ (by omega)
      rw [Nat.le_min]
      exact ⟨by omega, by omega⟩
    · rw [R_great (N := M) (by omega)]
      have m0 : M ≠ 0 := by omega
      have hlm : 53 ≤ M.log2 := (Nat.le_log2 m0).2 (by rw [p53]; omega)
      have hll : M.log2 ≤ N.log2 := (Nat.le_log2 n0).2 (Nat.le_trans (Nat.log2_self_le m0) h)
      have key : (M.log2 - 52) * 4503599627370496 + Ieee.Toward.even.cut false M (M.log2 - 52) ≤ (N.log2 - 52) * 4503599627370496 + Ieee.Toward.even.cut false N (N.log2 - 52) := by
        by_cases he : M.log2 = N.log2
        · rw [he]
          apply Nat.add_le_add_left
          exact cut_mono false M N _ (by omega) (by omega) h
        · have kM := down52 M m0 (by omega)
          have cM := cut_ge false M (M.log2 - 52) (by omega)
          generalize Ieee.Toward.even.cut false M (M.log2 - 52) = c1 at *
          generalize Ieee.Toward.even.cut false N (N.log2 - 52) = c2 at *
          generalize M / 2 ^ (M.log2 - 52) = q1 at *
          generalize N / 2 ^ (N.log2 - 52) = q2 at *
          generalize M.log2 = L1 at *
          generalize N.log2 = L2 at *
          obtain ⟨j, rfl⟩ : ∃ j, L2 = L1 + 1 + j := ⟨L2 - L1 - 1, by omega⟩
          rw [show L1 + 1 + j - 52 = (L1 - 52) + 1 + j by omega, Nat.add_mul, Nat.add_mul]
          omega
      rw [Nat.le_min]
      exact ⟨Nat.le_trans (Nat.min_le_left _ _) key, Nat.min_le_right _ _⟩

/-- A finite rung, in least units. -/
def val (x : Nat) : Nat := if x < 4503599627370496 then x else (4503599627370496 + x % 4503599627370496) * 2 ^ (x / 4503599627370496 - 1)

theorem R_val {x : Nat} (h : x < 9218868437227405312) : R (val x) = x := by
  unfold val
  by_cases h1 : x < 4503599627370496
  · rw [if_pos h1]; exact R_small (by omega)
  · rw [if_neg h1]
    have x1 : 1 ≤ ex x := by unfold ex; omega
    have x2 : ex x ≤ 2046 := by unfold ex; omega
    have hb := rung_back (x := x) (m := 4503599627370496 + x % 4503599627370496) (ex x - 1) x1 x2 (by omega) (by omega) (by
      unfold ex at *
      have := Nat.div_add_mod x 4503599627370496
      generalize x / 4503599627370496 = q at *
      generalize x % 4503599627370496 = r at *
      obtain ⟨p, rfl⟩ : ∃ p, q = p + 1 := ⟨q - 1, by omega⟩
      rw [Nat.add_sub_cancel]
      omega)
    have e : (ex x : Int) - 1075 - ((ex x - 1 : Nat) : Int) = -1074 := by omega
    rw [e] at hb
    exact hb

theorem val_lt_of {x y : Nat} (hx : x < 9218868437227405312) (hy : y < 9218868437227405312) (h : val x ≤ val y) : x ≤ y := by
  have := R_mono h
  rwa [R_val hx, R_val hy] at this

theorem val_mono {x y : Nat} (hx : x < 9218868437227405312) (hy : y < 9218868437227405312) (h : x ≤ y) : val x ≤ val y := by
  apply Nat.le_of_not_lt
  intro hlt
  have h2 := val_lt_of hy hx (Nat.le_of_lt hlt)
  have : x = y := by omega
  rw [this] at hlt
  exact Nat.lt_irrefl _ hlt
end Go.Proofs.Qxb6601754a
