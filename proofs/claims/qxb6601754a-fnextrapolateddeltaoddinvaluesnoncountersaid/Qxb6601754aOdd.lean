import Derived.Test.Qxb6601754aExt2
import Derived.Test.Qxb6601754aNeg
namespace Go.Proofs.Qxb6601754a
open Go.RowKit
attribute [local go_sem] run_neg_float

/-- THE PLAIN LAW: for a gauge, negated values give the negated answer. -/
theorem ext_odd {V : Nat → Nat} {n : Nat} (h0 : V 0 < 18446744073709551616) (h1 : V (n - 1) < 18446744073709551616) (a z s rng : Int) (ps : Bool) :
    Opp (extG (fun i => canon (V i)) n a z s rng false ps) (extG (fun i => canon (Op.negFloat .f64 (V i))) n a z s rng false ps) := by
  simp only [extG, deltaF, startF, Bool.false_and, Bool.false_eq_true, if_false, fop_canon]
  exact mul_opp (sub_opp h1 h0) _

theorem extG_lt {V : Nat → Option Nat} {n : Nat} {a z s rng : Int} {c ps : Bool} {r : Nat} (h : extG V n a z s rng c ps = some r) : r < 18446744073709551616 := fop_lt h

set_option maxHeartbeats 400000 in
theorem sv_nan (x y : Nat) (w : World) (h0 : FloatKind.f64.format.order x y = Option.none) (hx : FloatKind.f64.format.order x x = Option.none) (hy : FloatKind.f64.format.order y y = Option.none) :
    Calls Try.prog 24 #[.float .f64 x, .float .f64 y] w fun e w' => e = .returned (.bool true) ∧ w = w' := by
  go_enter Try.func24, Try.ntmps24
  go_wp2
  go_ret
  exact ⟨rfl, rfl⟩
set_option maxHeartbeats 400000 in
theorem sv_eq (x y : Nat) (w : World) (h0 : FloatKind.f64.format.order x y = some .eq) :
    Calls Try.prog 24 #[.float .f64 x, .float .f64 y] w fun e w' => e = .returned (.bool true) ∧ w = w' := by
  go_enter Try.func24, Try.ntmps24
  go_wp2
  go_ret
  exact ⟨rfl, rfl⟩
theorem sv_any (x y : Nat) (w : World) (h : (canon x = Option.none ∧ canon y = Option.none) ∨ FloatKind.f64.format.order x y = some .eq) :
    Calls Try.prog 24 #[.float .f64 x, .float .f64 y] w fun e w' => e = .returned (.bool true) ∧ w = w' := by
  rcases h with ⟨hx, hy⟩ | h
  · exact sv_nan x y w (order_nan_left hx) (order_nan_left hx) (order_nan_left hy)
  · exact sv_eq x y w h

theorem zz22_no (a : Option Addr) (n c : Nat) (t rng : Int) (p : Bool) (w : World) (h : 1048576 < n) :
    Calls Try.prog 22 #[.slice a n c, .int .i64 t, .int .i64 rng, .bool p] w fun e w' => e = .returned (.bool false) ∧ w = w' := by
  go_enter Try.func22, Try.ntmps22
  go_wp2
  go_ret
  exact ⟨rfl, rfl⟩
theorem zz22_yes (a : Option Addr) (n c : Nat) (t rng : Int) (p : Bool) (w : World) (h : n ≤ 1048576) :
    Calls Try.prog 22 #[.slice a n c, .int .i64 t, .int .i64 rng, .bool p] w fun e w' => e = .returned (.bool true) ∧ w = w' := by
  go_enter Try.func22, Try.ntmps22
  go_wp2
  go_ret
  exact ⟨rfl, rfl⟩

theorem walk6_long (a : Option Addr) (n c : Nat) (t rng : Int) (p : Bool) (w : World) (h : 65536 < n) :
    Calls Try.prog 6 #[.slice a n c, .int .i64 t, .int .i64 rng, .bool p] w fun e w' => e = .returned (.bool true) ∧ Below w.heap.size w w' := by
  by_cases h1 : 1048576 < n
  · go_enter Try.func6, Try.ntmps6
    go_wp2_with (go_at_call 22; refine (zz22_no _ _ _ _ _ _ _ h1).mono ?_; rintro e w' ⟨rfl, rfl⟩)
    go_ret
    exact ⟨rfl, Below.refl _ _⟩
  · go_enter Try.func6, Try.ntmps6
    go_wp2_with (go_at_call 22; refine (zz22_yes _ _ _ _ _ _ _ (by omega)).mono ?_; rintro e w' ⟨rfl, rfl⟩)
    go_ret
    exact ⟨rfl, Below.refl _ _⟩

theorem zero_neg : FloatKind.f64.format.order 0 (Op.negFloat .f64 0) = some .eq := by
  have hc : canon 0 = some 0 := canon_some (by omega)
  rcases same_opp (v := 0) (nv := 0) (fun a ha => by rw [hc] at ha; cases ha; omega)
    (.inr ⟨0, 0, hc, hc, read_notNan (by omega), .inr ⟨_, _, _, _, read_small (by omega), read_small (by omega)⟩⟩) with h | h
  · rw [hc] at h; cases h.1
  · exact h

set_option maxHeartbeats 1000000 in
theorem walk6_few (a : Option Addr) (n c : Nat) (hc : a = Option.none → c = 0) (t rng : Int) (p : Bool) (T : Nat → Int) (V : Nat → Nat) (w : World) (hP : Pts w a n T V) (h : n < 2) :
    Calls Try.prog 6 #[.slice a n c, .int .i64 t, .int .i64 rng, .bool p] w fun e w' => e = .returned (.bool true) ∧ Below w.heap.size w w' := by
  have hd : decide ((2 : Int) ≤ (n : Int)) = false := decide_eq_false (by omega)
  go_enter Try.func6, Try.ntmps6
  go_wp2_with (go_at_call 22; refine (zz22_yes _ _ _ _ _ _ _ (by omega)).mono ?_; rintro e w' ⟨rfl, rfl⟩)
  refine (toModel_any a n c hc T V _ hP (by omega)).mono ?_
  rintro e w1 ⟨a1, rfl, hP1, hB1⟩
  go_wp2_with fail
  refine (zzext_few _ _ _ _ _ _ _ _ h).mono ?_
  rintro e w2 ⟨rfl, hw2⟩
  subst hw2
  go_wp2_with fail
  refine (negated_any a n c hc T V _ (pts_below hP hB1) (by omega)).mono ?_
  rintro e w3 ⟨a3, rfl, hP3, hB3⟩
  go_wp2_with fail
  refine (zzext_few _ _ _ _ _ _ _ _ h).mono ?_
  rintro e w4 ⟨rfl, hw4⟩
  subst hw4
  go_wp2_with fail
  refine (sv_eq _ _ _ zero_neg).mono ?_
  rintro e w5 ⟨rfl, rfl⟩
  go_wp2_with fail
  go_ret
  exact ⟨rfl, hB1.trans (hB3.mono hB1.size)⟩

set_option maxHeartbeats 1000000 in
theorem walk6_two (a : Option Addr) (n c : Nat) (hc : a = Option.none → c = 0) (t rng : Int) (p : Bool) (T : Nat → Int) (V : Nat → Nat) (w : World) (hP : Pts w a n T V) (h : 2 ≤ n) (h16 : n ≤ 65536)
    (hF : ∀ i, i < n → V i < 18446744073709551616) :
    Calls Try.prog 6 #[.slice a n c, .int .i64 t, .int .i64 rng, .bool p] w fun e w' => e = .returned (.bool true) ∧ Below w.heap.size w w' := by
  have hd : decide ((2 : Int) ≤ (n : Int)) = true := decide_eq_true (by omega)
  go_enter Try.func6, Try.ntmps6
  go_wp2_with (go_at_call 22; refine (zz22_yes _ _ _ _ _ _ _ (by omega)).mono ?_; rintro e w' ⟨rfl, rfl⟩)
  refine (toModel_any a n c hc T V _ hP (by omega)).mono ?_
  rintro e w1 ⟨a1, rfl, hP1, hB1⟩
  go_wp2_with fail
  refine (zzext_pts a1 n n T V t rng false p _ hP1 h (by omega) (Nat.le_refl _)).mono ?_
  rintro e w2 ⟨r, rfl, hr, hB2⟩
  have Hr : Hid (canon r = extG (fun i => canon (V i)) n (wrap64 (wrap64 (T 0 - t) + rng)) (wrap64 (t - T (n - 1))) (wrap64 (T (n - 1) - T 0)) rng false p) := hr
  have hB12 : Below w.heap.size w w2 := hB1.trans (hB2.mono hB1.size)
  clear hr
  go_wp2_with fail
  refine (negated_any a n c hc T V _ (pts_below hP hB12) (by omega)).mono ?_
  rintro e w3 ⟨a3, rfl, hP3, hB3⟩
  go_wp2_with fail
  refine (zzext_pts a3 n n T _ t rng false p _ hP3 h (by omega) (Nat.le_refl _)).mono ?_
  rintro e w4 ⟨s, rfl, hs, hB4⟩
  have Hs : Hid ((canon s = Option.none ∧ canon (Op.negFloat .f64 r) = Option.none) ∨ FloatKind.f64.format.order s (Op.negFloat .f64 r) = some .eq) := by
    refine same_opp (fun x hx => ?_) ?_
    · rw [Hr.out] at hx; exact extG_lt hx
    · rw [hs, Hr.out]; exact ext_odd (hF 0 (by omega)) (hF (n - 1) (by omega)) _ _ _ _ _
  clear hs Hr
  go_wp2_with fail
  refine (sv_any _ _ _ Hs.out).mono ?_
  rintro e w5 ⟨rfl, rfl⟩
  go_wp2_with fail
  go_ret
  exact ⟨rfl, hB12.trans ((hB3.mono hB12.size).trans (hB4.mono (Nat.le_trans hB12.size hB3.size)))⟩

theorem walk6 (a : Option Addr) (n c : Nat) (hc : a = Option.none → c = 0) (t rng : Int) (p : Bool) (T : Nat → Int) (V : Nat → Nat) (w : World) (hP : Pts w a n T V) (hF : ∀ i, i < n → V i < 18446744073709551616) :
    Calls Try.prog 6 #[.slice a n c, .int .i64 t, .int .i64 rng, .bool p] w fun e w' => e = .returned (.bool true) ∧ Below w.heap.size w w' := by
  by_cases h1 : 65536 < n
  · exact walk6_long a n c t rng p w h1
  · by_cases h2 : n < 2
    · exact walk6_few a n c hc t rng p T V w hP h2
    · exact walk6_two a n c hc t rng p T V w hP (by omega) (by omega) hF
end Go.Proofs.Qxb6601754a
