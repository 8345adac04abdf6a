import Derived.Test.Qxb6601754aBase
namespace Go.Proofs.Qxb6601754a
open Go.RowKit

theorem order_nan_left {x y : Nat} (h : canon x = Option.none) : FloatKind.f64.format.order x y = Option.none := by
  have hn : (Ieee.double.read x).isNaN = true := by
    unfold canon at h; split at h
    · assumption
    · cases h
  show (Ieee.double.read x).order (Ieee.double.read y) = Option.none
  cases hx : Ieee.double.read x <;> rw [hx] at hn <;> simp [Ieee.Datum.isNaN] at hn
  simp [Ieee.Datum.order]

theorem order_nan_right {x y : Nat} (h : canon y = Option.none) : FloatKind.f64.format.order x y = Option.none := by
  have hn : (Ieee.double.read y).isNaN = true := by
    unfold canon at h; split at h
    · assumption
    · cases h
  show (Ieee.double.read x).order (Ieee.double.read y) = Option.none
  cases hy : Ieee.double.read y <;> rw [hy] at hn <;> simp [Ieee.Datum.isNaN] at hn
  cases hx : Ieee.double.read x <;> simp [Ieee.Datum.order]

theorem canon_eq_some {x y : Nat} (h : canon x = some y) : y = x ∧ (Ieee.double.read x).isNaN = false := by
  unfold canon at h; split at h
  · cases h
  · rename_i hn; cases h; exact ⟨rfl, by simpa using hn⟩

theorem order_canon {x y x' y' : Nat} (hx : canon x = canon x') (hy : canon y = canon y') : FloatKind.f64.format.order x y = FloatKind.f64.format.order x' y' := by
  cases h : canon x with
  | none => rw [order_nan_left h, order_nan_left (by rw [← hx]; exact h)]
  | some u =>
    obtain ⟨rfl, _⟩ := canon_eq_some h
    rw [h] at hx
    obtain ⟨rfl, _⟩ := canon_eq_some hx.symm
    cases h2 : canon y with
    | none => rw [order_nan_right h2, order_nan_right (by rw [← hy]; exact h2)]
    | some v =>
      obtain ⟨rfl, _⟩ := canon_eq_some h2
      rw [h2] at hy
      obtain ⟨rfl, _⟩ := canon_eq_some hy.symm
      rfl

theorem order_self {x : Nat} (h : (Ieee.double.read x).isNaN = false) : FloatKind.f64.format.order x x = some .eq := by
  show (Ieee.double.read x).order (Ieee.double.read x) = _
  cases hx : Ieee.double.read x <;> rw [hx] at h <;> simp [Ieee.Datum.isNaN] at h <;> simp [Ieee.Datum.order]

theorem fres_canon {op : BinOp} {x y x' y' r r' : Nat} (hx : canon x = canon x') (hy : canon y = canon y') (h : FRes op x y r) (h' : FRes op x' y' r') : canon r = canon r' := by
  rw [h.1, h'.1, hx, hy]

set_option maxHeartbeats 400000 in
theorem same_nan (x y : Nat) (w : World) (hx : FloatKind.f64.format.order x x = Option.none) (hy : FloatKind.f64.format.order y y = Option.none) :
    Calls Try.prog 18 #[.float .f64 x, .float .f64 y] w fun e w' => e = .returned (.bool true) ∧ ∃ n, w' = w.drewN n := by
  go_enter Try.func18, Try.ntmps18
  go_wp2
  go_ret
  exact ⟨rfl, 0, rfl⟩

set_option maxHeartbeats 400000 in
theorem same_num (x : Nat) (w : World) (hx : FloatKind.f64.format.order x x = some .eq) :
    Calls Try.prog 18 #[.float .f64 x, .float .f64 x] w fun e w' => e = .returned (.bool true) ∧ ∃ n, w' = w.drewN n := by
  cases h0 : (FloatKind.f64.format.order x 0 == some .eq) with
  | true =>
    go_enter Try.func18, Try.ntmps18
    go_wp2_with (refine wpList_float rfl _ _ _ _ _ rfl rfl _ _ rfl rfl ?_; intro r n hr)
    rename_i r1 n1 hr1
    have e := order_canon (fres_canon rfl rfl hr1 hr) (rfl : canon 0 = canon 0)
    go_ret
    exact ⟨by rw [e]; simp, _, rfl⟩
  | false =>
    go_enter Try.func18, Try.ntmps18
    go_wp2
    go_ret
    exact ⟨rfl, 0, rfl⟩

/-- 'sameFloat' of two floats that are one but for a NaN's bits. -/
theorem same_any (x y : Nat) (h : canon x = canon y) (w : World) :
    Calls Try.prog 18 #[.float .f64 x, .float .f64 y] w fun e w' => e = .returned (.bool true) ∧ ∃ n, w' = w.drewN n := by
  cases hx : canon x with
  | none => exact same_nan x y w (order_nan_left hx) (order_nan_left (by rw [← h]; exact hx))
  | some u =>
    obtain ⟨rfl, hn⟩ := canon_eq_some hx
    rw [hx] at h
    obtain ⟨rfl, _⟩ := canon_eq_some h.symm
    exact same_num _ w (order_self hn)
end Go.Proofs.Qxb6601754a
