import Derived.Test.Qxb6601754aExt2
import Derived.Test.Qxb6601754aOne
import Derived.Deep.RegionWith
namespace Go.Proofs.Qxb6601754a
open Go.RowKit
attribute [local go_sem] run_store_float

theorem canon_norm {lo hi x : Nat} (h : Norm lo hi x) (h1 : 1 ≤ lo) (h2 : hi ≤ 2046) : canon x = some x := by
  obtain ⟨n, j, hr, _⟩ := norm_read h h1 h2
  unfold canon; rw [hr]; rfl

theorem oneone : Norm 1023 1024 4607632778762754458 := by constructor <;> omega

theorem fop_mul_one (p : Option Nat) (h : ∀ x, p = some x → x < 18446744073709551616 ∧ x % 9223372036854775808 ≤ 9218868437227405312) : fop .mul p (some 4607182418800017408) = p := by
  cases p with
  | none => rfl
  | some x => exact mul_one (h x rfl).1 (h x rfl).2

/-- THE PLAIN LAW: two points, over the window that they span: just their difference. -/
theorem agree_law (V : Nat → Nat) (d rng : Int) (hd : 0 < d) (hd2 : d < 2 ^ 63) : extG (fun i => canon (V i)) 2 0 0 d rng false false = fop .sub (canon (V 1)) (canon (V 0)) := by
  obtain ⟨g, hg, hN⟩ := gap_norm hd hd2
  have g1 : 1 ≤ ex g := by have := hN.ex_ge; omega
  have g2 : ex g ≤ 2046 := by have := hN.ex_le; omega
  have cg : canon g = some g := canon_norm hN (by omega) (by omega)
  have c1 : canon 4607182418800017408 = some 4607182418800017408 := canon_some (by omega)
  have c0 : canon 0 = some 0 := canon_some (by omega)
  have avg : fop .quo (gapF d) (canon (floatOfInt .f64 (((2 : Nat) : Int) - 1))) = some g := by
    rw [show (((2 : Nat) : Int) - 1) = 1 by omega, int_one, c1, hg]
    exact div_one g1 g2
  obtain ⟨h, hh, hhN⟩ := mul_norm hN oneone (by omega) (by omega) (by omega) (by omega) (by omega) (by omega)
  have thr : fop .mul (some g) (canon 4607632778762754458) = some h := by
    rw [canon_norm oneone (by omega) (by omega)]; exact hh
  have hlt : forder (some 0) (some h) = some .lt := by
    refine nought_lt ?_ ?_
    · have := hhN.ex_ge; omega
    · have := hhN.ex_le; omega
  have more : moreF (some g) (some 0) (some h) (some g) = some g := by
    unfold moreF; rw [hlt]; exact add_nought g1 g2
  have fac : factorF (startF (canon (V 0)) (deltaF (fun i => canon (V i)) 2 false) (gapF d) (gapF 0) false) (gapF 0) (gapF d) (some g) = some 4607182418800017408 := by
    unfold factorF startF
    simp only [Bool.false_and, Bool.false_eq_true, if_false]
    rw [gap_zero, hg, thr, more, more]
    exact div_self g1 g2
  unfold extG
  simp only [Bool.false_eq_true, if_false]
  rw [avg, fac]
  unfold deltaF
  simp only [Bool.false_eq_true, if_false, fop_canon]
  refine fop_mul_one _ fun x hx => ⟨?_, floatBits_mod hx⟩
  have := floatBits_lt hx
  omega

theorem zz28_no (a : Option Addr) (n c : Nat) (w : World) (h : 1048576 < n) :
    Calls Try.prog 28 #[.slice a n c] w fun e w' => e = .returned (.bool false) ∧ w = w' := by
  go_enter Try.func28, Try.ntmps28
  go_wp2
  go_ret
  exact ⟨rfl, rfl⟩
theorem zz28_yes (a : Option Addr) (n c : Nat) (w : World) (h : n ≤ 1048576) :
    Calls Try.prog 28 #[.slice a n c] w fun e w' => e = .returned (.bool true) ∧ w = w' := by
  go_enter Try.func28, Try.ntmps28
  go_wp2
  go_ret
  exact ⟨rfl, rfl⟩

theorem walk8_long (a : Option Addr) (n c : Nat) (w : World) (h : 65536 < n) :
    Calls Try.prog 8 #[.slice a n c] w fun e w' => e = .returned (.bool true) ∧ Below w.heap.size w w' := by
  by_cases h1 : 1048576 < n
  · go_enter Try.func8, Try.ntmps8
    go_wp2_with (go_at_call 28; refine (zz28_no _ _ _ _ h1).mono ?_; rintro e w' ⟨rfl, rfl⟩)
    go_ret
    exact ⟨rfl, Below.refl _ _⟩
  · go_enter Try.func8, Try.ntmps8
    go_wp2_with (go_at_call 28; refine (zz28_yes _ _ _ _ (by omega)).mono ?_; rintro e w' ⟨rfl, rfl⟩)
    go_ret
    exact ⟨rfl, Below.refl _ _⟩

set_option maxHeartbeats 1000000 in
theorem walk8_few (a : Option Addr) (n c : Nat) (hc : a = Option.none → c = 0) (T : Nat → Int) (V : Nat → Nat) (w : World) (hP : Pts w a n T V) (h : n < 2) :
    Calls Try.prog 8 #[.slice a n c] w fun e w' => e = .returned (.bool true) ∧ Below w.heap.size w w' := by
  go_enter Try.func8, Try.ntmps8
  go_wp2_with (go_at_call 28; refine (zz28_yes _ _ _ _ (by omega)).mono ?_; rintro e w' ⟨rfl, rfl⟩)
  refine (toModel_any a n c hc T V _ hP (by omega)).mono ?_
  rintro e w1 ⟨a1, rfl, hP1, hB1⟩
  go_wp2_with fail
  refine (zzinst_few _ _ _ _ _ h).mono ?_
  rintro e w2 ⟨rfl, hw2⟩
  subst hw2
  go_wp2_with fail
  refine (toModel_any a n c hc T V _ (pts_below hP hB1) (by omega)).mono ?_
  rintro e w3 ⟨a3, rfl, hP3, hB3⟩
  go_wp2_with fail
  refine (zzext_few _ _ _ _ _ _ _ _ h).mono ?_
  rintro e w4 ⟨rfl, hw4⟩
  subst hw4
  go_wp2_with fail
  refine (same_any 0 0 rfl _).mono ?_
  rintro e w5 ⟨rfl, n5, rfl⟩
  go_wp2_with fail
  refine (same_any 0 0 rfl _).mono ?_
  rintro e w6 ⟨rfl, n6, rfl⟩
  go_wp2_with fail
  go_ret
  exact ⟨rfl, below_drewN (hB1.trans (hB3.mono hB1.size)) _⟩

set_option maxHeartbeats 1000000 in
theorem walk8_stop (b off n c : Nat) (T : Nat → Int) (V : Nat → Nat) (w : World) (hP : Reads w b off n T V) (h : 2 ≤ n) (h16 : n ≤ 65536) (hs : T (n - 1) ≤ T (n - 2) ∨ wrap64 (T (n - 1) - T (n - 2)) ≤ 0) :
    Calls Try.prog 8 #[.slice (some ⟨b, off, Option.none⟩) n c] w fun e w' => e = .returned (.bool true) ∧ Below w.heap.size w w' := by
  have hbl : b < w.heap.size := at_pt hP (k := n - 2) (by omega)
  have c0 := (hP (n - 2) (by omega)).1
  have c1 := (hP (n - 2) (by omega)).2
  have d0 := (hP (n - 1) (by omega)).1
  have d1 := (hP (n - 1) (by omega)).2
  by_cases hs1 : T (n - 1) ≤ T (n - 2)
  · clear hs
    go_enter Try.func8, Try.ntmps8
    go_wp2_with (go_at_call 28; refine (zz28_yes _ _ _ _ (by omega)).mono ?_; rintro e w' ⟨rfl, rfl⟩)
    go_ret
    exact ⟨rfl, by repeat (first | exact Below.refl _ _ | refine below_drewN ?_ _ | refine Below.drew ?_ | refine Below.alloc ?_ (by simp) _)⟩
  · have hs2 : wrap64 (T (n - 1) - T (n - 2)) ≤ 0 := by omega
    clear hs
    go_enter Try.func8, Try.ntmps8
    go_wp2_with (go_at_call 28; refine (zz28_yes _ _ _ _ (by omega)).mono ?_; rintro e w' ⟨rfl, rfl⟩)
    go_ret
    exact ⟨rfl, by repeat (first | exact Below.refl _ _ | refine below_drewN ?_ _ | refine Below.drew ?_ | refine Below.alloc ?_ (by simp) _)⟩

/-- 'ZZInstantDelta', two points at least. -/
theorem zzinst_pts (a : Option Addr) (n c : Nat) (p : Bool) (T : Nat → Int) (V : Nat → Nat) (w : World) (h : Pts w a n T V) (h2 : 2 ≤ n) (hn : n ≤ 1048576) :
    Calls Try.prog 29 #[.slice a n c, .bool p] w fun e w' => ∃ r, e = .returned (.tuple #[.float .f64 r, .bool true]) ∧
      canon r = instF T (fun i => canon (V i)) n (FloatKind.f64.format.order (V (n - 1)) (V (n - 2)) == some .lt) p ∧ Below w.heap.size w w' := by
  obtain ⟨b, off, rfl, hR⟩ := h.2 (by omega)
  exact zzinst_any b off n c p T V w hR h2 hn

theorem window_zero (x y : Int) : wrap64 (wrap64 (y - x) + wrap64 (x - y)) = 0 := by unfold wrap64; omega
theorem end_zero (x : Int) : wrap64 (x - x) = 0 := by unfold wrap64; omega

set_option maxRecDepth 100000 in
set_option maxHeartbeats 1000000 in
theorem walk8_go (b off n c : Nat) (T : Nat → Int) (V : Nat → Nat) (w : World) (hP : Reads w b off n T V) (h : 2 ≤ n) (h16 : n ≤ 65536) (hc : n ≤ c) (hs1 : T (n - 2) < T (n - 1)) (hs2 : 0 < wrap64 (T (n - 1) - T (n - 2))) :
    Calls Try.prog 8 #[.slice (some ⟨b, off, Option.none⟩) n c] w fun e w' => e = .returned (.bool true) ∧ Below w.heap.size w w' := by
  have hbl : b < w.heap.size := at_pt hP (k := n - 2) (by omega)
  have c0 := (hP (n - 2) (by omega)).1
  have c1 := (hP (n - 2) (by omega)).2
  have d0 := (hP (n - 1) (by omega)).1
  have d1 := (hP (n - 1) (by omega)).2
  have hB0 : Below w.heap.size w ((w.alloc (Obj.cells #[Value.int IntKind.i64 (T (n - 2)), Value.float FloatKind.f64 (V (n - 2))] 32)).alloc (Obj.cells #[Value.int IntKind.i64 (T (n - 1)), Value.float FloatKind.f64 (V (n - 1))] 32)) :=
    ((Below.refl _ _).alloc (Nat.le_refl _) _).alloc (by simp) _
  have hc9 : ((w.alloc (Obj.cells #[Value.int IntKind.i64 (T (n - 2)), Value.float FloatKind.f64 (V (n - 2))] 32)).alloc (Obj.cells #[Value.int IntKind.i64 (T (n - 1)), Value.float FloatKind.f64 (V (n - 1))] 32)).cell? ⟨w.heap.size + 1, 0, Option.none⟩ = some (.int .i64 (T (n - 1))) :=
    (cells_two w _ _ _ _ 32).2.1
  go_enter Try.func8, Try.ntmps8
  go_wp2_with (go_at_call 28; refine (zz28_yes _ _ _ _ (by omega)).mono ?_; rintro e w' ⟨rfl, rfl⟩)
  refine (toModel_any (some ⟨b, off, Option.none⟩) n c (fun h => by cases h) T V _ ⟨fun h => (by cases h), fun _ => ⟨b, off, rfl, reads_below hP hB0 hbl⟩⟩ (by omega)).mono ?_
  rintro e w1 ⟨a1, rfl, hP1, hB1⟩
  have hs1 : w.heap.size + 1 < w1.heap.size := by have hz := hB1.size; simp at hz; omega
  have hc1 : w1.cell? ⟨w.heap.size + 1, 0, Option.none⟩ = some (.int .i64 (T (n - 1))) := (hB1.cell (by simp)).trans hc9
  have hB01 : Below w.heap.size w w1 := hB0.trans (hB1.mono hB0.size)
  clear hB1 hB0 hc9 c0 c1 d0 d1
  go_wp2_with fail
  refine (zzinst_pts a1 n n false T V _ hP1 h (by omega)).mono ?_
  rintro e w2 ⟨r, rfl, hr, hB2⟩
  have Hr : Hid (canon r = fop .sub (canon (V (n - 1))) (canon (V (n - 2)))) := hr
  have hs2' : w.heap.size + 1 < w2.heap.size := Nat.lt_of_lt_of_le hs1 hB2.size
  have hc2 : w2.cell? ⟨w.heap.size + 1, 0, Option.none⟩ = some (.int .i64 (T (n - 1))) := (hB2.cell hs1).trans hc1
  have hB02 : Below w.heap.size w w2 := hB01.trans (hB2.mono hB01.size)
  clear hr hP1 hB2 hc1 hB01 hs1
  have K14 : Hid (∀ wx, Below w2.heap.size w2 wx → Calls Try.prog 14 #[.slice (some ⟨b, off + (n - 2) * 2, Option.none⟩) (n - (n - 2)) (c - (n - 2))] wx fun e w' => ∃ a3, e = .returned (.slice a3 2 2) ∧ Pts w' a3 2 (fun i => T (n - 2 + i)) (fun i => V (n - 2 + i)) ∧
      w'.cell? ⟨w.heap.size + 1, 0, Option.none⟩ = some (.int .i64 (T (n - 1))) ∧ Below w.heap.size w w') := by
    intro wx hwx
    have hBx : Below w.heap.size w wx := hB02.trans (hwx.mono hB02.size)
    rw [show n - (n - 2) = 2 by omega]
    refine (toModel_any (some ⟨b, off + (n - 2) * 2, Option.none⟩) 2 _ (fun h => by cases h) (fun i => T (n - 2 + i)) (fun i => V (n - 2 + i)) _ ⟨fun h => (by cases h), fun _ => ⟨b, off + (n - 2) * 2, rfl, reads_tail (reads_below hP hBx hbl) h⟩⟩ (by omega)).mono ?_
    rintro e w3 ⟨a3, rfl, hP3, hB3⟩
    exact ⟨a3, rfl, hP3, (hB3.cell (Nat.lt_of_lt_of_le hs2' hwx.size)).trans ((hwx.cell hs2').trans hc2), hBx.trans (hB3.mono hBx.size)⟩
  have hlaw : Hid (∀ s, canon s = extG (fun i => canon (V (n - 2 + i))) 2 (wrap64 (wrap64 (T (n - 2 + 0) - T (n - 1)) + wrap64 (T (n - 1) - T (n - 2)))) (wrap64 (T (n - 1) - T (n - 2 + (2 - 1)))) (wrap64 (T (n - 2 + (2 - 1)) - T (n - 2 + 0))) (wrap64 (T (n - 1) - T (n - 2))) false false → canon r = canon s) := by
    intro s hs
    have e1 : n - 2 + 1 = n - 1 := by omega
    have hd2 : wrap64 (T (n - 1) - T (n - 2)) < 2 ^ 63 := by unfold wrap64; omega
    have hl := agree_law (fun i => V (n - 2 + i)) (wrap64 (T (n - 1) - T (n - 2))) (wrap64 (T (n - 1) - T (n - 2))) hs2 hd2
    rw [hs, Hr.out]
    simp only [Nat.add_zero, show 2 - 1 = 1 from rfl, e1, window_zero, end_zero] at hl ⊢
    exact hl.symm
  clear Hr
  have hcn : ¬ c = n - 2 := by omega
  go_wp2_with fail
  go_cut [13, 14] (fun p q wx => ∃ s, p = .float .f64 s ∧ q = .bool true ∧ canon r = canon s ∧ Below w.heap.size w wx)
  case first =>
    have hwr : IntKind.i64.wrap ((n : Int) - 2) = (n : Int) - 2 := by rw [IntKind.wrap_i64]; omega
    have hto : ((n : Int) - 2).toNat = n - 2 := by omega
    have hlo : (0 : Int) ≤ (n : Int) - 2 := by omega
    have hhi : (n : Int) - 2 ≤ (n : Int) := by omega
    go_region_with (first | (go_at_call 14; refine (K14.out _ (Below.refl _ _).drew).mono ?_; rintro e w3 ⟨a3, rfl, hP3, hc3, hB3⟩) | (go_at_call 20; refine (zzext_pts a3 2 2 _ _ (T (n - 1)) (wrap64 (T (n - 1) - T (n - 2))) false false _ hP3 (by omega) (by omega) (by omega)).mono ?_; rintro e w4 ⟨s, rfl, hs, hB4⟩))
    all_goals go_wp2_with fail
    all_goals go_meet
    all_goals exact ⟨s, rfl, rfl, hlaw.out s hs, hB3.trans (hB4.mono hB3.size)⟩
  case rest =>
    obtain ⟨s, rfl, rfl, Hs, hB5⟩ := hcut
    have Hs2 : Hid (canon r = canon s) := Hs
    clear Hs K14 hlaw
    go_wp2_with fail
    refine (same_any r s Hs2.out _).mono ?_
    rintro e w5 ⟨rfl, n5, rfl⟩
    go_wp2_with fail
    go_ret
    exact ⟨rfl, below_drewN hB5 _⟩

theorem walk8 (a : Option Addr) (n c : Nat) (hc : a = Option.none → c = 0) (hnc : n ≤ c) (T : Nat → Int) (V : Nat → Nat) (w : World) (hP : Pts w a n T V) :
    Calls Try.prog 8 #[.slice a n c] w fun e w' => e = .returned (.bool true) ∧ Below w.heap.size w w' := by
  by_cases h1 : 65536 < n
  · exact walk8_long a n c w h1
  · by_cases h2 : n < 2
    · exact walk8_few a n c hc T V w hP h2
    · obtain ⟨b, off, rfl, hR⟩ := hP.2 (by omega)
      by_cases hs : T (n - 1) ≤ T (n - 2) ∨ wrap64 (T (n - 1) - T (n - 2)) ≤ 0
      · exact walk8_stop b off n c T V w hR (by omega) (by omega) hs
      · exact walk8_go b off n c T V w hR (by omega) (by omega) hnc (by omega) (by omega)
end Go.Proofs.Qxb6601754a
