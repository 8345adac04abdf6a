import Derived.Test.Qxb6601754aFnn
namespace Go.Proofs.Qxb6601754a
open Go.RowKit
attribute [local go_sem] run_store_float

theorem read_max : ∃ m p, Ieee.double.read 9218868437227405311 = .number false m p := ⟨_, _, read_normal (by omega) (by omega)⟩

/-- Finite and not below zero: what it stands for. -/
theorem fnn_read {v : Nat} (h : fnn v = true) : ∃ s m p, Ieee.double.read v = .number s m p ∧ (s = false ∨ m = 0) := by
  unfold fnn at h
  rw [Bool.and_eq_true, Bool.or_eq_true, beq_iff_eq, beq_iff_eq, Bool.not_eq_true', beq_eq_false_iff_ne] at h
  have hn := order_nonneg h.1
  cases hd : Ieee.double.read v with
  | nan s f => rw [hd] at hn; cases hn
  | infinity s =>
    exfalso
    rw [hd] at hn
    have hs : s = false := hn
    apply h.2
    obtain ⟨m, p, hm⟩ := read_max
    show (Ieee.double.read v).order (Ieee.double.read 9218868437227405311) = _
    rw [hd, hm, hs]
    simp only [Ieee.Datum.order, Bool.false_eq_true, if_false]
  | number s m p => rw [hd] at hn; exact ⟨s, m, p, rfl, hn⟩

theorem signed_opp (s : Bool) (m k : Nat) : Ieee.signed (!s) m k = - Ieee.signed s m k := by
  unfold Ieee.signed; cases s <;> simp

/-- A difference of two finite floats of which the second is not above the first. -/
theorem sub_nonneg {x y : Nat} {s t : Bool} {m n : Nat} {i j : Int} (hx : Ieee.double.read x = .number s m i) (hy : Ieee.double.read y = .number t n j)
    (h : FloatKind.f64.format.order x y ≠ some .lt) : ∃ r, floatBits .sub .f64 x y = some r ∧ nonneg (Ieee.double.read r) := by
  have e : floatBits .sub .f64 x y = ((Ieee.double.read x).sum (Ieee.double.read y).opposite).map Ieee.double.write := rfl
  have ho : FloatKind.f64.format.order x y = (Ieee.double.read x).order (Ieee.double.read y) := rfl
  rw [ho, hx, hy] at h
  rw [e, hx, hy]
  simp only [Ieee.Datum.opposite, Ieee.Datum.sum, Ieee.Datum.order, Option.map_some, signed_opp] at *
  refine ⟨_, rfl, nonneg_write ?_⟩
  generalize Ieee.signed s m (i - min i j).toNat = u at *
  generalize Ieee.signed t n (j - min i j).toNat = v at *
  have huv : v ≤ u := by
    apply Int.not_lt.1
    intro hlt
    exact h (by rw [Int.compare_eq_lt.2 hlt])
  by_cases hz : u + -v = 0
  · right; omega
  · left
    rw [if_neg hz]
    exact decide_eq_false (by omega)

theorem thousand : Norm 1032 1033 4652007308841189376 := by
  constructor <;> omega

theorem norm_read {lo hi x : Nat} (h : Norm lo hi x) (h1 : 1 ≤ lo) (h2 : hi ≤ 2046) : ∃ n j, Ieee.double.read x = .number false n j ∧ n ≠ 0 := by
  have a := h.ex_ge
  have b := h.ex_le
  obtain ⟨m, m1, m2, hm⟩ := read_ex (x := x) (by omega) (by omega)
  exact ⟨m, _, hm, by omega⟩

theorem gap_norm {d : Int} (h1 : 0 < d) (h2 : d < 2 ^ 63) : ∃ r, gapF d = some r ∧ Norm 1012 1078 r := by
  unfold gapF
  rw [fop_canon]
  have hi : Norm 1023 1086 (floatOfInt .f64 d) := (int_norm h1 h2 (by omega)).mono (by omega) (by omega)
  obtain ⟨r, hr, hN⟩ := div_norm hi thousand (by omega) (by omega) (by omega) (by omega) (by omega) (by omega)
  exact ⟨r, hr, hN.mono (by omega) (by omega)⟩

theorem canon_nonneg {x : Nat} (h : nonneg (Ieee.double.read x)) : canon x = some x := by
  unfold canon
  cases hd : Ieee.double.read x with
  | nan s f => rw [hd] at h; cases h
  | infinity s => rfl
  | number s m p => rfl

theorem canon_of_nonneg {x r : Nat} (h : canon x = some r) (hr : nonneg (Ieee.double.read r)) : nonneg (Ieee.double.read x) := by
  obtain ⟨rfl, _⟩ := canon_eq_some h
  exact hr

/-- THE PLAIN LAW: the rate of two finite values, not below zero, over a time that went on, is not below zero. -/
theorem rate_nonneg {T : Nat → Int} {V : Nat → Nat} {n : Nat} (h0 : fnn (V (n - 2)) = true) (h1 : fnn (V (n - 1)) = true) (hd : 0 < wrap64 (T (n - 1) - T (n - 2))) {r : Nat}
    (hr : canon r = instF T (fun i => canon (V i)) n (FloatKind.f64.format.order (V (n - 1)) (V (n - 2)) == some .lt) true) :
    (FloatKind.f64.format.order r 0 == some .gt || FloatKind.f64.format.order r 0 == some .eq) = true := by
  obtain ⟨s0, m0, p0, e0, g0⟩ := fnn_read h0
  obtain ⟨s1, m1, p1, e1, g1⟩ := fnn_read h1
  have hd2 : wrap64 (T (n - 1) - T (n - 2)) < 2 ^ 63 := by unfold wrap64; omega
  obtain ⟨q, hq, hN⟩ := gap_norm hd hd2
  obtain ⟨nn, j, hread, hne⟩ := norm_read hN (by omega) (by omega)
  have key : ∃ D, (if (FloatKind.f64.format.order (V (n - 1)) (V (n - 2)) == some .lt) = true then canon (V (n - 1)) else fop .sub (canon (V (n - 1))) (canon (V (n - 2)))) = some D ∧ nonneg (Ieee.double.read D) := by
    have k1 : nonneg (Ieee.double.read (V (n - 1))) := by rw [e1]; exact g1
    cases hlt : (FloatKind.f64.format.order (V (n - 1)) (V (n - 2)) == some .lt) with
    | true => exact ⟨_, by rw [if_pos rfl]; exact canon_nonneg k1, k1⟩
    | false =>
      obtain ⟨D, hD, hDn⟩ := sub_nonneg e1 e0 (beq_eq_false_iff_ne.1 hlt)
      exact ⟨D, by rw [if_neg (by simp), fop_canon]; exact hD, hDn⟩
  obtain ⟨D, hD, hDn⟩ := key
  unfold instF at hr
  simp only [if_true] at hr
  rw [hD, hq] at hr
  obtain ⟨r', hr', hn'⟩ := quo_nonneg hDn hread hne
  have hr2 : canon r = some r' := by rw [hr]; exact hr'
  rcases nonneg_order (canon_of_nonneg hr2 hn') with h | h <;> rw [h] <;> rfl

theorem zz31_no (a : Option Addr) (n c : Nat) (w : World) (h : 1048576 < n) :
    Calls Try.prog 31 #[.slice a n c] w fun e w' => e = .returned (.bool false) ∧ w = w' := by
  go_enter Try.func31, Try.ntmps31
  go_wp2
  go_ret
  exact ⟨rfl, rfl⟩
theorem zz31_yes (a : Option Addr) (n c : Nat) (w : World) (h : n ≤ 1048576) :
    Calls Try.prog 31 #[.slice a n c] w fun e w' => e = .returned (.bool true) ∧ w = w' := by
  go_enter Try.func31, Try.ntmps31
  go_wp2
  go_ret
  exact ⟨rfl, rfl⟩

theorem walk10_long (a : Option Addr) (n c : Nat) (w : World) (h : 65536 < n) :
    Calls Try.prog 10 #[.slice a n c] w fun e w' => e = .returned (.bool true) ∧ Below w.heap.size w w' := by
  by_cases h1 : 1048576 < n
  · go_enter Try.func10, Try.ntmps10
    go_wp2_with (go_at_call 31; refine (zz31_no _ _ _ _ h1).mono ?_; rintro e w' ⟨rfl, rfl⟩)
    go_ret
    exact ⟨rfl, Below.refl _ _⟩
  · go_enter Try.func10, Try.ntmps10
    go_wp2_with (go_at_call 31; refine (zz31_yes _ _ _ _ (by omega)).mono ?_; rintro e w' ⟨rfl, rfl⟩)
    go_ret
    exact ⟨rfl, Below.refl _ _⟩

set_option maxHeartbeats 400000 in
theorem walk10_few (a : Option Addr) (n c : Nat) (hc : a = Option.none → c = 0) (T : Nat → Int) (V : Nat → Nat) (w : World) (hP : Pts w a n T V) (h : n < 2) :
    Calls Try.prog 10 #[.slice a n c] w fun e w' => e = .returned (.bool true) ∧ Below w.heap.size w w' := by
  go_enter Try.func10, Try.ntmps10
  go_wp2_with (go_at_call 31; refine (zz31_yes _ _ _ _ (by omega)).mono ?_; rintro e w' ⟨rfl, rfl⟩)
  refine (toModel_any a n c hc T V _ hP (by omega)).mono ?_
  rintro e w1 ⟨a1, rfl, hP1, hB1⟩
  go_wp2_with fail
  refine (zzinst_few _ _ _ _ _ h).mono ?_
  rintro e w2 ⟨rfl, hw2⟩
  subst hw2
  go_wp2_with fail
  refine (same_any 0 0 rfl _).mono ?_
  rintro e w3 ⟨rfl, n3, rfl⟩
  go_wp2_with fail
  go_ret
  exact ⟨rfl, below_drewN hB1 _⟩

theorem reads_tail {w : World} {b off n : Nat} {T : Nat → Int} {V : Nat → Nat} (h : Reads w b off n T V) (h2 : 2 ≤ n) :
    Reads w b (off + (n - 2) * 2) 2 (fun i => T (n - 2 + i)) (fun i => V (n - 2 + i)) := by
  intro i hi
  have := h (n - 2 + i) (by omega)
  rw [show off + (n - 2) * 2 + i * 2 = off + (n - 2 + i) * 2 by omega]
  exact this

theorem reads_below {w w' : World} {b off n : Nat} {T : Nat → Int} {V : Nat → Nat} (h : Reads w b off n T V) {B : Nat} (hB : Below B w w') (hb : b < B) : Reads w' b off n T V :=
  fun i hi => ⟨(hB.cell (by exact hb)).trans (h i hi).1, (hB.cell (by exact hb)).trans (h i hi).2⟩

set_option maxHeartbeats 1000000 in
theorem walk10_stop (b off n c : Nat) (T : Nat → Int) (V : Nat → Nat) (w : World) (hP : Reads w b off n T V) (h : 2 ≤ n) (h16 : n ≤ 65536) (hs : T (n - 1) ≤ T (n - 2) ∨ wrap64 (T (n - 1) - T (n - 2)) ≤ 0) :
    Calls Try.prog 10 #[.slice (some ⟨b, off, Option.none⟩) n c] w fun e w' => e = .returned (.bool true) ∧ Below w.heap.size w w' := by
  have hbl : b < w.heap.size := at_pt hP (k := n - 2) (by omega)
  have c0 := (hP (n - 2) (by omega)).1
  have c1 := (hP (n - 2) (by omega)).2
  have d0 := (hP (n - 1) (by omega)).1
  have d1 := (hP (n - 1) (by omega)).2
  by_cases hs1 : T (n - 1) ≤ T (n - 2)
  · clear hs
    go_enter Try.func10, Try.ntmps10
    go_wp2_with (go_at_call 31; refine (zz31_yes _ _ _ _ (by omega)).mono ?_; rintro e w' ⟨rfl, rfl⟩)
    go_ret
    exact ⟨rfl, by repeat (first | exact Below.refl _ _ | refine below_drewN ?_ _ | refine Below.drew ?_ | refine Below.alloc ?_ (by simp) _)⟩
  · have hs2 : wrap64 (T (n - 1) - T (n - 2)) ≤ 0 := by omega
    clear hs
    go_enter Try.func10, Try.ntmps10
    go_wp2_with (go_at_call 31; refine (zz31_yes _ _ _ _ (by omega)).mono ?_; rintro e w' ⟨rfl, rfl⟩)
    go_ret
    exact ⟨rfl, by repeat (first | exact Below.refl _ _ | refine below_drewN ?_ _ | refine Below.drew ?_ | refine Below.alloc ?_ (by simp) _)⟩

set_option maxHeartbeats 1000000 in
theorem walk10_go (b off n c : Nat) (T : Nat → Int) (V : Nat → Nat) (w : World) (hP : Reads w b off n T V) (h : 2 ≤ n) (h16 : n ≤ 65536) (hc : n ≤ c) (hs1 : T (n - 2) < T (n - 1)) (hs2 : 0 < wrap64 (T (n - 1) - T (n - 2))) :
    Calls Try.prog 10 #[.slice (some ⟨b, off, Option.none⟩) n c] w fun e w' => e = .returned (.bool true) ∧ Below w.heap.size w w' := by
  have hbl : b < w.heap.size := at_pt hP (k := n - 2) (by omega)
  have c0 := (hP (n - 2) (by omega)).1
  have c1 := (hP (n - 2) (by omega)).2
  have d0 := (hP (n - 1) (by omega)).1
  have d1 := (hP (n - 1) (by omega)).2
  go_enter Try.func10, Try.ntmps10
  go_wp2_with (go_at_call 31; refine (zz31_yes _ _ _ _ (by omega)).mono ?_; rintro e w' ⟨rfl, rfl⟩)
  have e2 : n - (n - 2) = 2 := by omega
  rw [e2]
  clear e2
  have hB0 : Below w.heap.size w ((w.alloc (Obj.cells #[Value.int IntKind.i64 (T (n - 2)), Value.float FloatKind.f64 (V (n - 2))] 32)).alloc (Obj.cells #[Value.int IntKind.i64 (T (n - 1)), Value.float FloatKind.f64 (V (n - 1))] 32)) :=
    ((Below.refl _ _).alloc (Nat.le_refl _) _).alloc (by simp) _
  refine (fnn_any b (off + (n - 2) * 2) 2 _ _ _ _ (reads_tail (reads_below hP hB0 hbl) h) (by omega)).mono ?_
  rintro e w1 ⟨⟨r, rfl, hf⟩, hw1⟩
  have hB1 : Below w.heap.size w w1 := by rw [← hw1]; exact hB0
  clear hw1 hB0
  cases r with
  | false =>
    go_wp2_with fail
    go_ret
    exact ⟨rfl, hB1⟩
  | true =>
    have h0 : fnn (V (n - 2)) = true := hf rfl 0 (by omega)
    have h1 : fnn (V (n - 1)) = true := by
      have h11 : fnn (V (n - 2 + 1)) = true := hf rfl 1 (by omega)
      rwa [show n - 2 + 1 = n - 1 by omega] at h11
    have H0 : Hid (fnn (V (n - 2)) = true) := h0
    have H1 : Hid (fnn (V (n - 1)) = true) := h1
    clear hf h0 h1
    go_wp2_with fail
    refine (toModel_pts b off n c T V _ (reads_below hP hB1 hbl) (by omega)).mono ?_
    rintro e w2 ⟨rfl, hP2, hB2, hS2⟩
    go_wp2_with fail
    refine (zzinst_any _ _ _ _ _ T V _ hP2 h (by omega)).mono ?_
    rintro e w3 ⟨r, rfl, hr, hB3⟩
    have hge := rate_nonneg H0.out H1.out hs2 hr
    clear hr
    go_wp2_with fail
    go_ret
    exact ⟨rfl, hB1.trans ((hB2.mono hB1.size).trans (hB3.mono (Nat.le_trans hB1.size hB2.size)))⟩

theorem walk10 (a : Option Addr) (n c : Nat) (hc : a = Option.none → c = 0) (hnc : n ≤ c) (T : Nat → Int) (V : Nat → Nat) (w : World) (hP : Pts w a n T V) :
    Calls Try.prog 10 #[.slice a n c] w fun e w' => e = .returned (.bool true) ∧ Below w.heap.size w w' := by
  by_cases h1 : 65536 < n
  · exact walk10_long a n c w h1
  · by_cases h2 : n < 2
    · exact walk10_few a n c hc T V w hP h2
    · obtain ⟨b, off, rfl, hR⟩ := hP.2 (by omega)
      by_cases hs : T (n - 1) ≤ T (n - 2) ∨ wrap64 (T (n - 1) - T (n - 2)) ≤ 0
      · exact walk10_stop b off n c T V w hR (by omega) (by omega) hs
      · exact walk10_go b off n c T V w hR (by omega) (by omega) hnc (by omega) (by omega)
end Go.Proofs.Qxb6601754a
