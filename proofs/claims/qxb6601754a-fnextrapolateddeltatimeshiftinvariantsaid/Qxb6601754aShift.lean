import Derived.Test.Qxb6601754aExt2
namespace Go.Proofs.Qxb6601754a
open Go.RowKit

theorem zz19_no (a : Option Addr) (n c : Nat) (t rng k : Int) (p q : Bool) (w : World) (h : 1048576 < n) :
    Calls Try.prog 19 #[.slice a n c, .int .i64 t, .int .i64 rng, .int .i64 k, .bool p, .bool q] w fun e w' => e = .returned (.bool false) ∧ w = w' := by
  go_enter Try.func19, Try.ntmps19
  go_wp2
  go_ret
  exact ⟨rfl, rfl⟩
theorem zz19_yes (a : Option Addr) (n c : Nat) (t rng k : Int) (p q : Bool) (w : World) (h : n ≤ 1048576) :
    Calls Try.prog 19 #[.slice a n c, .int .i64 t, .int .i64 rng, .int .i64 k, .bool p, .bool q] w fun e w' => e = .returned (.bool true) ∧ w = w' := by
  go_enter Try.func19, Try.ntmps19
  go_wp2
  go_ret
  exact ⟨rfl, rfl⟩

theorem walk5_long (a : Option Addr) (n c : Nat) (t rng k : Int) (p q : Bool) (w : World) (h : 65536 < n) :
    Calls Try.prog 5 #[.slice a n c, .int .i64 t, .int .i64 rng, .int .i64 k, .bool p, .bool q] w fun e w' => e = .returned (.bool true) ∧ Below w.heap.size w w' := by
  by_cases h1 : 1048576 < n
  · go_enter Try.func5, Try.ntmps5
    go_wp2_with (go_at_call 19; refine (zz19_no _ _ _ _ _ _ _ _ _ h1).mono ?_; rintro e w' ⟨rfl, rfl⟩)
    go_ret
    exact ⟨rfl, Below.refl _ _⟩
  · go_enter Try.func5, Try.ntmps5
    go_wp2_with (go_at_call 19; refine (zz19_yes _ _ _ _ _ _ _ _ _ (by omega)).mono ?_; rintro e w' ⟨rfl, rfl⟩)
    go_ret
    exact ⟨rfl, Below.refl _ _⟩

set_option maxHeartbeats 1000000 in
theorem walk5_few (a : Option Addr) (n c : Nat) (hc : a = Option.none → c = 0) (t rng k : Int) (p q : Bool) (T : Nat → Int) (V : Nat → Nat) (w : World) (hP : Pts w a n T V) (h : n < 2) :
    Calls Try.prog 5 #[.slice a n c, .int .i64 t, .int .i64 rng, .int .i64 k, .bool p, .bool q] w fun e w' => e = .returned (.bool true) ∧ Below w.heap.size w w' := by
  have hd : decide ((2 : Int) ≤ (n : Int)) = false := decide_eq_false (by omega)
  go_enter Try.func5, Try.ntmps5
  go_wp2_with (go_at_call 19; refine (zz19_yes _ _ _ _ _ _ _ _ _ (by omega)).mono ?_; rintro e w' ⟨rfl, rfl⟩)
  refine (toModel_any a n c hc T V _ hP (by omega)).mono ?_
  rintro e w1 ⟨a1, rfl, hP1, hB1⟩
  go_wp2_with fail
  refine (zzext_few _ _ _ _ _ _ _ _ h).mono ?_
  rintro e w2 ⟨rfl, hw2⟩
  subst hw2
  go_wp2_with fail
  refine (shifted_any a n c hc k T V _ (pts_below hP hB1) (by omega)).mono ?_
  rintro e w3 ⟨a3, rfl, hP3, hB3⟩
  go_wp2_with fail
  refine (zzext_few _ _ _ _ _ _ _ _ h).mono ?_
  rintro e w4 ⟨rfl, hw4⟩
  subst hw4
  go_wp2_with fail
  refine (same_any 0 0 rfl _).mono ?_
  rintro e w5 ⟨rfl, n5, rfl⟩
  go_wp2_with fail
  refine (same_any 0 0 rfl _).mono ?_
  rintro e w6 ⟨rfl, n6, rfl⟩
  go_wp2_with fail
  go_ret
  exact ⟨rfl, below_drewN (hB1.trans (hB3.mono hB1.size)) _⟩

theorem shift_s (x y k : Int) : wrap64 (wrap64 (x + k) - wrap64 (y + k)) = wrap64 (x - y) := by
  unfold wrap64; omega

set_option maxHeartbeats 1000000 in
theorem walk5_two (a : Option Addr) (n c : Nat) (hc : a = Option.none → c = 0) (t rng k : Int) (p q : Bool) (T : Nat → Int) (V : Nat → Nat) (w : World) (hP : Pts w a n T V) (h : 2 ≤ n) (h16 : n ≤ 65536) :
    Calls Try.prog 5 #[.slice a n c, .int .i64 t, .int .i64 rng, .int .i64 k, .bool p, .bool q] w fun e w' => e = .returned (.bool true) ∧ Below w.heap.size w w' := by
  have hd : decide ((2 : Int) ≤ (n : Int)) = true := decide_eq_true (by omega)
  go_enter Try.func5, Try.ntmps5
  go_wp2_with (go_at_call 19; refine (zz19_yes _ _ _ _ _ _ _ _ _ (by omega)).mono ?_; rintro e w' ⟨rfl, rfl⟩)
  refine (toModel_any a n c hc T V _ hP (by omega)).mono ?_
  rintro e w1 ⟨a1, rfl, hP1, hB1⟩
  go_wp2_with fail
  refine (zzext_pts a1 n n T V t rng p q _ hP1 h (by omega) (Nat.le_refl _)).mono ?_
  rintro e w2 ⟨r, rfl, hr, hB2⟩
  have Hr : Hid (canon r = extG (fun i => canon (V i)) n (wrap64 (wrap64 (T 0 - t) + rng)) (wrap64 (t - T (n - 1))) (wrap64 (T (n - 1) - T 0)) rng p q) := hr
  have hB12 : Below w.heap.size w w2 := hB1.trans (hB2.mono hB1.size)
  clear hr
  go_wp2_with fail
  refine (shifted_any a n c hc k T V _ (pts_below hP hB12) (by omega)).mono ?_
  rintro e w3 ⟨a3, rfl, hP3, hB3⟩
  go_wp2_with fail
  refine (zzext_pts a3 n n _ V (wrap64 (t + k)) rng p q _ hP3 h (by omega) (Nat.le_refl _)).mono ?_
  rintro e w4 ⟨s, rfl, hs, hB4⟩
  have Hs : Hid (canon r = canon s) := by
    show canon r = canon s
    rw [hs, Hr.out]
    simp only [shift_s]
  clear hs Hr
  go_wp2_with fail
  refine (same_any r s Hs.out _).mono ?_
  rintro e w5 ⟨rfl, n5, rfl⟩
  go_wp2_with fail
  go_ret
  exact ⟨rfl, below_drewN (hB12.trans ((hB3.mono hB12.size).trans (hB4.mono (Nat.le_trans hB12.size hB3.size)))) _⟩

theorem walk5 (a : Option Addr) (n c : Nat) (hc : a = Option.none → c = 0) (t rng k : Int) (p q : Bool) (T : Nat → Int) (V : Nat → Nat) (w : World) (hP : Pts w a n T V) :
    Calls Try.prog 5 #[.slice a n c, .int .i64 t, .int .i64 rng, .int .i64 k, .bool p, .bool q] w fun e w' => e = .returned (.bool true) ∧ Below w.heap.size w w' := by
  by_cases h1 : 65536 < n
  · exact walk5_long a n c t rng k p q w h1
  · by_cases h2 : n < 2
    · exact walk5_few a n c hc t rng k p q T V w hP h2
    · exact walk5_two a n c hc t rng k p q T V w hP (by omega) (by omega)
end Go.Proofs.Qxb6601754a
