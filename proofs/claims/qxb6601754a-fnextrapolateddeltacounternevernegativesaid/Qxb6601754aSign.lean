/-
  Plain facts on float64: not below zero.
-/
import Derived.Test.Qxb6601754aFloat
namespace Go.Proofs.Qxb6601754a

theorem rungOf_le (mag : Nat) (place : Int) : rungOf mag place ≤ 9218868437227405312 := by
  have e : ∀ r, Ieee.double.word false r = r := fun r => rfl
  unfold rungOf Ieee.Format.nearest
  split
  · rw [e]; omega
  · dsimp only; rw [e, dInf]; exact Nat.min_le_right _ _

theorem rungOf_zero (place : Int) : rungOf 0 place = 0 := by
  unfold rungOf Ieee.Format.nearest
  rw [if_pos rfl]
  rfl

/-- A datum with another sign. -/
def withSign (s : Bool) : Ieee.Datum → Ieee.Datum
  | .number _ m p => .number s m p
  | .infinity _ => .infinity s
  | .nan _ f => .nan s f

theorem read_word (s : Bool) (r : Nat) (h : r < 9223372036854775808) : Ieee.double.read (Ieee.double.word s r) = withSign s (Ieee.double.read r) := by
  have hm := word_mod s r h
  have hd : (Ieee.double.word s r / 9223372036854775808 % 2 == 1) = s := by
    unfold Ieee.Format.word
    rw [dSW]
    cases s
    · simp only [Bool.false_eq_true, if_false]
      rw [Nat.div_eq_of_lt h]; rfl
    · simp only [if_true]
      rw [show (9223372036854775808 + r) / 9223372036854775808 = 1 by omega]; rfl
  have hr : r % 9223372036854775808 = r := Nat.mod_eq_of_lt h
  unfold Ieee.Format.read
  simp only [dSW, dBin, dInf, hm, hd, hr]
  by_cases h1 : r < 4503599627370496
  · rw [if_pos h1, if_pos h1]; rfl
  · rw [if_neg h1, if_neg h1]
    by_cases h2 : r < 9218868437227405312
    · rw [if_pos h2, if_pos h2]; rfl
    · rw [if_neg h2, if_neg h2]
      by_cases h3 : r = 9218868437227405312
      · rw [if_pos h3, if_pos h3]; rfl
      · rw [if_neg h3, if_neg h3]; rfl

theorem read_inf : Ieee.double.read 9218868437227405312 = .infinity false := by
  unfold Ieee.Format.read
  simp only [dSW, dBin, dInf]
  have a : 9218868437227405312 % 9223372036854775808 = 9218868437227405312 := Nat.mod_eq_of_lt (by omega)
  have b : (9218868437227405312 / 9223372036854775808 % 2 == 1) = false := by
    rw [Nat.div_eq_of_lt (by omega)]; rfl
  rw [a, b, if_neg (by omega), if_neg (by omega), if_pos trivial]

/-- Not a NaN and not below zero. -/
def nonneg : Ieee.Datum → Prop
  | .number s m _ => s = false ∨ m = 0
  | .infinity s => s = false
  | .nan _ _ => False

theorem nonneg_bits {r : Nat} (h : r ≤ 9218868437227405312) : nonneg (Ieee.double.read r) := by
  by_cases h1 : r < 4503599627370496
  · rw [read_small h1]; exact .inl rfl
  · by_cases h2 : r < 9218868437227405312
    · rw [read_normal (by omega) h2]; exact .inl rfl
    · obtain rfl : r = 9218868437227405312 := by omega
      rw [read_inf]; rfl

theorem word_false (r : Nat) : Ieee.double.word false r = r := rfl
theorem write_number (s : Bool) (m : Nat) (p : Int) : Ieee.double.write (.number s m p) = Ieee.double.word s (rungOf m p) := nearest_word s m p
theorem write_inf (s : Bool) : Ieee.double.write (.infinity s) = Ieee.double.word s 9218868437227405312 := by
  rw [← dInf]; rfl

theorem nonneg_write {d : Ieee.Datum} (h : nonneg d) : nonneg (Ieee.double.read (Ieee.double.write d)) := by
  cases d with
  | nan s f => cases h
  | infinity s =>
    have hs : s = false := h
    rw [write_inf, read_word _ _ (by omega), read_inf, hs]
    simp only [withSign, nonneg]
  | number s m p =>
    have hle := rungOf_le m p
    rw [write_number]
    rcases h with rfl | rfl
    · rw [word_false]; exact nonneg_bits hle
    · rw [rungOf_zero, read_word _ _ (by omega), read_small (by omega)]
      simp only [withSign, nonneg, or_true]

theorem signed_nonneg {s : Bool} {m k : Nat} (h : s = false ∨ m = 0) : 0 ≤ Ieee.signed s m k := by
  unfold Ieee.signed
  rcases h with rfl | rfl
  · simp only [Bool.false_eq_true, if_false]; exact Int.natCast_nonneg _
  · rw [shl_eq, Nat.zero_mul]; split <;> simp

theorem nonneg_order {x : Nat} (h : nonneg (Ieee.double.read x)) : FloatKind.f64.format.order x 0 = some .gt ∨ FloatKind.f64.format.order x 0 = some .eq := by
  have e : FloatKind.f64.format.order x 0 = (Ieee.double.read x).order (Ieee.double.read 0) := rfl
  rw [e, read_small (by omega : 0 < 4503599627370496)]
  cases hx : Ieee.double.read x with
  | nan s f => rw [hx] at h; cases h
  | infinity s =>
    rw [hx] at h
    have hs : s = false := h
    subst hs
    left; rfl
  | number s m p =>
    rw [hx] at h
    have h0 : ∀ k, Ieee.signed false 0 k = 0 := by intro k; unfold Ieee.signed; rw [shl_eq, Nat.zero_mul]; rfl
    simp only [Ieee.Datum.order, h0]
    have hs := signed_nonneg (k := (p - min p (-1074)).toNat) h
    generalize Ieee.signed s m (p - min p (-1074)).toNat = z at hs
    by_cases hz : z = 0
    · right; rw [hz]; rfl
    · left; rw [Int.compare_eq_gt.2 (by omega)]

theorem shl_ne {m k : Nat} (h : m ≠ 0) : m <<< k ≠ 0 := by
  rw [shl_eq]; exact Nat.mul_ne_zero h (pow_ne k)

theorem order_nonneg {x : Nat} (h : FloatKind.f64.format.order x 0 = some .gt ∨ FloatKind.f64.format.order x 0 = some .eq) : nonneg (Ieee.double.read x) := by
  have e : FloatKind.f64.format.order x 0 = (Ieee.double.read x).order (Ieee.double.read 0) := rfl
  rw [e, read_small (by omega : 0 < 4503599627370496)] at h
  cases hx : Ieee.double.read x with
  | nan s f => rw [hx] at h; simp [Ieee.Datum.order] at h
  | infinity s => rw [hx] at h; cases s <;> simp [Ieee.Datum.order] at h ⊢; rfl
  | number s m p =>
    rw [hx] at h
    cases s
    · exact .inl rfl
    · by_cases hm : m = 0
      · exact .inr hm
      · exfalso
        have h0 : ∀ k, Ieee.signed false 0 k = 0 := by intro k; unfold Ieee.signed; rw [shl_eq, Nat.zero_mul]; rfl
        simp only [Ieee.Datum.order, h0, Option.some.injEq] at h
        have hs : Ieee.signed true m (p - min p (-1074)).toNat < 0 := by
          unfold Ieee.signed
          have := shl_ne (k := (p - min p (-1074)).toNat) hm
          simp only [if_true]
          generalize m <<< (p - min p (-1074)).toNat = z at this
          omega
        generalize Ieee.signed true m (p - min p (-1074)).toNat = z at hs h
        rcases h with h | h
        · have := Int.compare_eq_gt.1 h; omega
        · have := Int.compare_eq_eq.1 h; omega

/-- A quotient of something not below zero by a positive number. -/
theorem quo_nonneg {x y : Nat} (hx : nonneg (Ieee.double.read x)) {n : Nat} {j : Int} (hy : Ieee.double.read y = .number false n j) (hn : n ≠ 0) :
    ∃ r, floatBits .quo .f64 x y = some r ∧ nonneg (Ieee.double.read r) := by
  have e : floatBits .quo .f64 x y = ((Ieee.double.read x).quotient (Ieee.double.fractionBits + 2) (Ieee.double.read y)).map Ieee.double.write := rfl
  rw [e, hy]
  cases hd : Ieee.double.read x with
  | nan s f => rw [hd] at hx; cases hx
  | infinity s =>
    rw [hd] at hx
    have hs : s = false := hx
    subst hs
    simp only [Ieee.Datum.quotient, Option.map_some]
    exact ⟨_, rfl, nonneg_write (by exact rfl)⟩
  | number s m i =>
    rw [hd] at hx
    simp only [Ieee.Datum.quotient, if_neg hn, Option.map_some]
    refine ⟨_, rfl, nonneg_write ?_⟩
    rcases hx with rfl | rfl
    · exact .inl rfl
    · right
      rw [shl_eq, Nat.zero_mul]
      simp

/-- A product of something not below zero and a positive number. -/
theorem mul_nonneg {x y : Nat} (hx : nonneg (Ieee.double.read x)) {n : Nat} {j : Int} (hy : Ieee.double.read y = .number false n j) (hn : n ≠ 0) :
    (∃ r, floatBits .mul .f64 x y = some r ∧ nonneg (Ieee.double.read r)) ∧ ∃ r, floatBits .mul .f64 y x = some r ∧ nonneg (Ieee.double.read r) := by
  have e : ∀ u v, floatBits .mul .f64 u v = ((Ieee.double.read u).product (Ieee.double.read v)).map Ieee.double.write := fun _ _ => rfl
  rw [e, e, hy]
  cases hd : Ieee.double.read x with
  | nan s f => rw [hd] at hx; cases hx
  | infinity s =>
    rw [hd] at hx
    have hs : s = false := hx
    subst hs
    simp only [Ieee.Datum.product, if_neg hn, Option.map_some]
    exact ⟨⟨_, rfl, nonneg_write (by exact rfl)⟩, ⟨_, rfl, nonneg_write (by exact rfl)⟩⟩
  | number s m i =>
    rw [hd] at hx
    simp only [Ieee.Datum.product, Option.map_some]
    refine ⟨⟨_, rfl, nonneg_write ?_⟩, ⟨_, rfl, nonneg_write ?_⟩⟩
    · rcases hx with rfl | rfl
      · exact .inl rfl
      · exact .inr (by simp)
    · rcases hx with rfl | rfl
      · exact .inl rfl
      · exact .inr (by simp)
end Go.Proofs.Qxb6601754a
