import Derived.Test.Qxb6601754aNever
import Derived.Test.Qxb6601754aWindow
namespace Go.Proofs.Qxb6601754a
open Go.RowKit

theorem zz25_no (a : Option Addr) (n c : Nat) (t rng : Int) (p : Bool) (w : World) (h : 1048576 < n) :
    Calls Try.prog 25 #[.slice a n c, .int .i64 t, .int .i64 rng, .bool p] w fun e w' => e = .returned (.bool false) ∧ w = w' := by
  go_enter Try.func25, Try.ntmps25
  go_wp2
  go_ret
  exact ⟨rfl, rfl⟩
theorem zz25_yes (a : Option Addr) (n c : Nat) (t rng : Int) (p : Bool) (w : World) (h : n ≤ 1048576) :
    Calls Try.prog 25 #[.slice a n c, .int .i64 t, .int .i64 rng, .bool p] w fun e w' => e = .returned (.bool true) ∧ w = w' := by
  go_enter Try.func25, Try.ntmps25
  go_wp2
  go_ret
  exact ⟨rfl, rfl⟩

theorem walk7_long (a : Option Addr) (n c : Nat) (t rng : Int) (p : Bool) (w : World) (h : 65536 < n) :
    Calls Try.prog 7 #[.slice a n c, .int .i64 t, .int .i64 rng, .bool p] w fun e w' => e = .returned (.bool true) ∧ Below w.heap.size w w' := by
  by_cases h1 : 1048576 < n
  · go_enter Try.func7, Try.ntmps7
    go_wp2_with (go_at_call 25; refine (zz25_no _ _ _ _ _ _ _ h1).mono ?_; rintro e w' ⟨rfl, rfl⟩)
    go_ret
    exact ⟨rfl, Below.refl _ _⟩
  · go_enter Try.func7, Try.ntmps7
    go_wp2_with (go_at_call 25; refine (zz25_yes _ _ _ _ _ _ _ (by omega)).mono ?_; rintro e w' ⟨rfl, rfl⟩)
    go_ret
    exact ⟨rfl, Below.refl _ _⟩

set_option maxHeartbeats 1000000 in
theorem walk7_few (a : Option Addr) (n c : Nat) (hc : a = Option.none → c = 0) (t rng : Int) (p : Bool) (T : Nat → Int) (V : Nat → Nat) (w : World) (hP : Pts w a n T V) (h : n < 2) :
    Calls Try.prog 7 #[.slice a n c, .int .i64 t, .int .i64 rng, .bool p] w fun e w' => e = .returned (.bool true) ∧ Below w.heap.size w w' := by
  go_enter Try.func7, Try.ntmps7
  go_wp2_with (go_at_call 25; refine (zz25_yes _ _ _ _ _ _ _ (by omega)).mono ?_; rintro e w' ⟨rfl, rfl⟩)
  refine (toModel_any a n c hc T V _ hP (by omega)).mono ?_
  rintro e w1 ⟨a1, rfl, hP1, hB1⟩
  go_wp2_with fail
  refine (zzext_few _ _ _ _ _ _ _ _ h).mono ?_
  rintro e w2 ⟨rfl, hw2⟩
  subst hw2
  go_wp2_with fail
  refine (same_any 0 0 rfl _).mono ?_
  rintro e w5 ⟨rfl, n5, rfl⟩
  go_wp2_with fail
  go_ret
  exact ⟨rfl, below_drewN hB1 _⟩

/-- 't < minInt64 + rng', as the Go text reckons it. -/
theorem walk7_stop1 (b off n c : Nat) (t rng : Int) (p : Bool) (w : World) (h : 2 ≤ n) (h16 : n ≤ 65536) (hs : rng ≤ 0) :
    Calls Try.prog 7 #[.slice (some ⟨b, off, Option.none⟩) n c, .int .i64 t, .int .i64 rng, .bool p] w fun e w' => e = .returned (.bool true) ∧ Below w.heap.size w w' := by
  go_enter Try.func7, Try.ntmps7
  go_wp2_with (go_at_call 25; refine (zz25_yes _ _ _ _ _ _ _ (by omega)).mono ?_; rintro e w' ⟨rfl, rfl⟩)
  go_ret
  exact ⟨rfl, Below.refl _ _⟩

theorem walk7_stop2 (b off n c : Nat) (t rng : Int) (p : Bool) (w : World) (h : 2 ≤ n) (h16 : n ≤ 65536) (hs : 0 < rng) (hr2 : rng ≤ 9223372036854775807) (ht : t < -9223372036854775808 + rng) :
    Calls Try.prog 7 #[.slice (some ⟨b, off, Option.none⟩) n c, .int .i64 t, .int .i64 rng, .bool p] w fun e w' => e = .returned (.bool true) ∧ Below w.heap.size w w' := by
  go_enter Try.func7, Try.ntmps7
  go_wp2_with (go_at_call 25; refine (zz25_yes _ _ _ _ _ _ _ (by omega)).mono ?_; rintro e w' ⟨rfl, rfl⟩)
  go_ret
  exact ⟨rfl, Below.refl _ _⟩

/-- The times of points inside the window. -/
theorem win_times {T : Nat → Int} {n : Nat} {t rng : Int} (hn : 2 ≤ n) (hr : 0 < rng) (hr2 : rng ≤ 9223372036854775807) (ht : -9223372036854775808 + rng ≤ t) (ht2 : t ≤ 9223372036854775807)
    (h1 : ∀ i, i < n → wrap64 (t - rng) < T i ∧ T i ≤ t) (h2 : ∀ i, i + 1 < n → T i < T (i + 1)) :
    (0 < wrap64 (wrap64 (T 0 - t) + rng) ∧ wrap64 (wrap64 (T 0 - t) + rng) < 2 ^ 63) ∧ (0 ≤ wrap64 (t - T (n - 1)) ∧ wrap64 (t - T (n - 1)) < 2 ^ 63) ∧ (0 < wrap64 (T (n - 1) - T 0) ∧ wrap64 (T (n - 1) - T 0) < 2 ^ 63) := by
  have hw : wrap64 (t - rng) = t - rng := by unfold wrap64; omega
  rw [hw] at h1
  have hinc : ∀ k, k + 1 < n → T 0 < T (k + 1) := by
    intro k
    induction k with
    | zero => intro hk; exact h2 0 hk
    | succ k ih => intro hk; have a := ih (by omega); have b := h2 (k + 1) hk; omega
  have h0 := h1 0 (by omega)
  have hl := h1 (n - 1) (by omega)
  have hlt : T 0 < T (n - 1) := by
    have := hinc (n - 2) (by omega)
    rwa [show n - 2 + 1 = n - 1 by omega] at this
  generalize T 0 = x at *
  generalize T (n - 1) = y at *
  have e1 : wrap64 (wrap64 (x - t) + rng) = x - t + rng := by unfold wrap64; omega
  have e2 : wrap64 (t - y) = t - y := by unfold wrap64; omega
  have e3 : wrap64 (y - x) = y - x := by unfold wrap64; omega
  rw [e1, e2, e3]
  omega

set_option maxHeartbeats 1000000 in
theorem walk7_go (b off n c : Nat) (t rng : Int) (p : Bool) (T : Nat → Int) (V : Nat → Nat) (w : World) (hP : Reads w b off n T V) (h : 2 ≤ n) (h16 : n ≤ 65536) (hs : 0 < rng) (hr2 : rng ≤ 9223372036854775807) (ht : -9223372036854775808 + rng ≤ t) (ht2 : t ≤ 9223372036854775807) :
    Calls Try.prog 7 #[.slice (some ⟨b, off, Option.none⟩) n c, .int .i64 t, .int .i64 rng, .bool p] w fun e w' => e = .returned (.bool true) ∧ Below w.heap.size w w' := by
  have hbl : b < w.heap.size := at_pt hP (k := n - 2) (by omega)
  go_enter Try.func7, Try.ntmps7
  go_wp2_with (go_at_call 25; refine (zz25_yes _ _ _ _ _ _ _ (by omega)).mono ?_; rintro e w' ⟨rfl, rfl⟩)
  refine (win_any b off n c t rng T V _ hP (by omega)).mono ?_
  rintro e w1 ⟨⟨r1, rfl, hwin⟩, m1, rfl⟩
  cases r1 with
  | false =>
    clear hwin
    go_wp2_with fail
    go_ret
    exact ⟨rfl, below_drewN (Below.refl _ _) _⟩
  | true =>
    have hw := hwin rfl
    have HT : Hid ((0 < wrap64 (wrap64 (T 0 - t) + rng) ∧ wrap64 (wrap64 (T 0 - t) + rng) < 2 ^ 63) ∧ (0 ≤ wrap64 (t - T (n - 1)) ∧ wrap64 (t - T (n - 1)) < 2 ^ 63) ∧ (0 < wrap64 (T (n - 1) - T 0) ∧ wrap64 (T (n - 1) - T 0) < 2 ^ 63)) := win_times h hs hr2 ht ht2 hw.1 hw.2
    clear hw hwin
    go_wp2_with fail
    refine (fnn_any b off n c T V _ (reads_below hP (below_drewN (Below.refl w.heap.size w) m1) hbl) (by omega)).mono ?_
    rintro e w2 ⟨⟨r2, rfl, hf⟩, rfl⟩
    cases r2 with
    | false =>
      clear hf
      go_wp2_with fail
      go_ret
      exact ⟨rfl, below_drewN (Below.refl _ _) _⟩
    | true =>
      have HF : Hid (∀ i, i < n → fnn (V i) = true) := hf rfl
      clear hf
      go_wp2_with fail
      refine (toModel_any (some ⟨b, off, Option.none⟩) n c (fun h => by cases h) T V _ ⟨fun h => (by cases h), fun _ => ⟨b, off, rfl, reads_below hP (below_drewN (Below.refl w.heap.size w) m1) hbl⟩⟩ (by omega)).mono ?_
      rintro e w3 ⟨a3, rfl, hP3, hB3⟩
      have hB03 : Below w.heap.size w w3 := (below_drewN (Below.refl w.heap.size w) m1).trans hB3
      clear hB3
      go_wp2_with fail
      refine (zzext_pts a3 n n T V t rng true p _ hP3 h (by omega) (Nat.le_refl _)).mono ?_
      rintro e w4 ⟨r, rfl, hr, hB4⟩
      have hge : (FloatKind.f64.format.order r 0 == some .gt || FloatKind.f64.format.order r 0 == some .eq) = true := by
        obtain ⟨x, hx, hxn⟩ := never_negative HF.out h h16 HT.out.1.1 HT.out.1.2 HT.out.2.1.1 HT.out.2.1.2 HT.out.2.2.1 HT.out.2.2.2 hs (show rng < 2 ^ 63 by omega) p
        rw [hx] at hr
        rcases nonneg_order (canon_of_nonneg hr hxn) with h | h <;> rw [h] <;> rfl
      clear hr HT HF
      go_wp2_with fail
      go_ret
      exact ⟨rfl, hB03.trans (hB4.mono hB03.size)⟩

theorem walk7 (a : Option Addr) (n c : Nat) (hc : a = Option.none → c = 0) (t rng : Int) (p : Bool) (T : Nat → Int) (V : Nat → Nat) (w : World) (hP : Pts w a n T V)
    (ht2 : t ≤ 9223372036854775807) (hr2 : rng ≤ 9223372036854775807) :
    Calls Try.prog 7 #[.slice a n c, .int .i64 t, .int .i64 rng, .bool p] w fun e w' => e = .returned (.bool true) ∧ Below w.heap.size w w' := by
  by_cases h1 : 65536 < n
  · exact walk7_long a n c t rng p w h1
  · by_cases h2 : n < 2
    · exact walk7_few a n c hc t rng p T V w hP h2
    · obtain ⟨b, off, rfl, hR⟩ := hP.2 (by omega)
      by_cases h3 : rng ≤ 0
      · exact walk7_stop1 b off n c t rng p w (by omega) (by omega) h3
      · by_cases h4 : t < -9223372036854775808 + rng
        · exact walk7_stop2 b off n c t rng p w (by omega) (by omega) (by omega) hr2 h4
        · exact walk7_go b off n c t rng p T V w hR (by omega) (by omega) (by omega) hr2 (by omega) ht2
end Go.Proofs.Qxb6601754a
