import Derived.Test.Qxb6601754aCopy
import Derived.Test.Qxb6601754aSame
namespace Go.Proofs.Qxb6601754a
open Go.RowKit
attribute [local go_sem] run_store_float

set_option maxHeartbeats 1000000 in
theorem inst_false (b off n c : Nat) (T : Nat → Int) (V : Nat → Nat) (w : World) (hr : Reads w b off n T V) (h2 : 2 ≤ n) (hn : n ≤ 1048576) :
    Calls Try.prog 34 #[.slice (some ⟨b, off, Option.none⟩) n c, .bool false] w fun e w' => ∃ r, e = .returned (.tuple #[.float .f64 r, .bool true]) ∧ FRes .sub (V (n - 1)) (V (n - 2)) r ∧ Below w.heap.size w w' := by
  have hbl : b < w.heap.size := at_pt hr (k := n - 2) (by omega)
  have c0 := (hr (n - 2) (by omega)).1
  have c1 := (hr (n - 2) (by omega)).2
  have d0 := (hr (n - 1) (by omega)).1
  have d1 := (hr (n - 1) (by omega)).2
  go_enter Try.func34, Try.ntmps34
  go_wp2
  go_region
  all_goals go_wp2_with (refine wpList_float rfl _ _ _ _ _ rfl rfl _ _ rfl rfl ?_; intro r nd hres)
  all_goals go_ret2
  all_goals exact ⟨_, rfl, hres, by repeat (first | exact Below.refl _ _ | refine below_drewN ?_ _ | refine Below.drew ?_ | refine Below.alloc ?_ (by simp) _)⟩

/-- Go's 'float64(last.T - prev.T) / 1000'. -/
def gapF (d : Int) : Option Nat := fop .quo (canon (floatOfInt .f64 d)) (canon 4652007308841189376)

set_option maxHeartbeats 1000000 in
theorem inst_true (b off n c : Nat) (T : Nat → Int) (V : Nat → Nat) (w : World) (hr : Reads w b off n T V) (h2 : 2 ≤ n) (hn : n ≤ 1048576) :
    Calls Try.prog 34 #[.slice (some ⟨b, off, Option.none⟩) n c, .bool true] w fun e w' => ∃ r, e = .returned (.tuple #[.float .f64 r, .bool true]) ∧
      canon r = fop .quo (if FloatKind.f64.format.order (V (n - 1)) (V (n - 2)) == some .lt then canon (V (n - 1)) else fop .sub (canon (V (n - 1))) (canon (V (n - 2)))) (gapF (wrap64 (T (n - 1) - T (n - 2)))) ∧ Below w.heap.size w w' := by
  have hbl : b < w.heap.size := at_pt hr (k := n - 2) (by omega)
  have c0 := (hr (n - 2) (by omega)).1
  have c1 := (hr (n - 2) (by omega)).2
  have d0 := (hr (n - 1) (by omega)).1
  have d1 := (hr (n - 1) (by omega)).2
  cases hlt : (FloatKind.f64.format.order (V (n - 1)) (V (n - 2)) == some .lt)
  all_goals
    go_enter Try.func34, Try.ntmps34
    go_wp2
    go_region
  all_goals go_wp2_with (refine wpList_float rfl _ _ _ _ _ rfl rfl _ _ rfl rfl ?_; intro r nd hres)
  all_goals go_ret2
  all_goals
    rename_i r1 n1 h1 r2 n2 h3
    refine ⟨r, rfl, ?_, by repeat (first | exact Below.refl _ _ | refine below_drewN ?_ _ | refine Below.drew ?_ | refine Below.alloc ?_ (by simp) _)⟩
    first
      | (rw [hres.1, h3.1, h1.1]; rfl)
      | (rw [hres.1, h3.1]; rfl)

/-- Fewer than two points: nothing. -/
theorem inst_few (a : Option Addr) (n c : Nat) (p : Bool) (w : World) (h2 : n < 2) :
    Calls Try.prog 34 #[.slice a n c, .bool p] w fun e w' => e = .returned (.tuple #[.float .f64 0, .bool false]) ∧ w = w' := by
  go_enter Try.func34, Try.ntmps34
  go_wp2
  go_ret2
  exact ⟨rfl, rfl⟩

/-- What 'instantDelta' gives, as a function without Go: two points at least. -/
def instF (T : Nat → Int) (V : Nat → Option Nat) (n : Nat) (lt : Bool) (p : Bool) : Option Nat :=
  if p then fop .quo (if lt then V (n - 1) else fop .sub (V (n - 1)) (V (n - 2))) (gapF (wrap64 (T (n - 1) - T (n - 2))))
  else fop .sub (V (n - 1)) (V (n - 2))

theorem inst_any (b off n c : Nat) (p : Bool) (T : Nat → Int) (V : Nat → Nat) (w : World) (hr : Reads w b off n T V) (h2 : 2 ≤ n) (hn : n ≤ 1048576) :
    Calls Try.prog 34 #[.slice (some ⟨b, off, Option.none⟩) n c, .bool p] w fun e w' => ∃ r, e = .returned (.tuple #[.float .f64 r, .bool true]) ∧
      canon r = instF T (fun i => canon (V i)) n (FloatKind.f64.format.order (V (n - 1)) (V (n - 2)) == some .lt) p ∧ Below w.heap.size w w' := by
  cases p
  · refine (inst_false b off n c T V w hr h2 hn).mono ?_
    rintro e w' ⟨r, rfl, h, hB⟩
    exact ⟨r, rfl, h.1, hB⟩
  · exact inst_true b off n c T V w hr h2 hn

/-- 'ZZInstantDelta'. -/
theorem zzinst_few (a : Option Addr) (n c : Nat) (p : Bool) (w : World) (h2 : n < 2) :
    Calls Try.prog 29 #[.slice a n c, .bool p] w fun e w' => e = .returned (.tuple #[.float .f64 0, .bool false]) ∧ w = w' := by
  go_enter Try.func29, Try.ntmps29
  go_wp2_with (go_at_call 34; refine (inst_few _ _ _ _ _ h2).mono ?_; rintro e w' ⟨rfl, rfl⟩)
  go_ret2
  exact ⟨rfl, rfl⟩

theorem zzinst_any (b off n c : Nat) (p : Bool) (T : Nat → Int) (V : Nat → Nat) (w : World) (hr : Reads w b off n T V) (h2 : 2 ≤ n) (hn : n ≤ 1048576) :
    Calls Try.prog 29 #[.slice (some ⟨b, off, Option.none⟩) n c, .bool p] w fun e w' => ∃ r, e = .returned (.tuple #[.float .f64 r, .bool true]) ∧
      canon r = instF T (fun i => canon (V i)) n (FloatKind.f64.format.order (V (n - 1)) (V (n - 2)) == some .lt) p ∧ Below w.heap.size w w' := by
  go_enter Try.func29, Try.ntmps29
  go_wp2_with (go_at_call 34; refine (inst_any b off n c p T V w hr h2 hn).mono ?_; rintro e w' ⟨r, rfl, hc, hB⟩)
  go_ret2
  exact ⟨_, rfl, hc, hB⟩
end Go.Proofs.Qxb6601754a
