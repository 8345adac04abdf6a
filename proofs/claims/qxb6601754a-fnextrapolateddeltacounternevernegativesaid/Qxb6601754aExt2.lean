import Derived.Test.Qxb6601754aExt
import Derived.Test.Qxb6601754aCopy2
namespace Go.Proofs.Qxb6601754a
open Go.RowKit
attribute [local go_sem] run_store_float run_neg_float

theorem ext_few (a : Option Addr) (n c : Nat) (t rng : Int) (counter ps : Bool) (w : World) (h2 : n < 2) :
    Calls Try.prog 33 #[.slice a n c, .int .i64 t, .int .i64 rng, .bool counter, .bool ps] w fun e w' => e = .returned (.tuple #[.float .f64 0, .bool false]) ∧ w = w' := by
  go_enter Try.func33, Try.ntmps33
  go_wp2
  go_ret2
  exact ⟨rfl, rfl⟩

theorem zzext_few (a : Option Addr) (n c : Nat) (t rng : Int) (counter ps : Bool) (w : World) (h2 : n < 2) :
    Calls Try.prog 20 #[.slice a n c, .int .i64 t, .int .i64 rng, .bool counter, .bool ps] w fun e w' => e = .returned (.tuple #[.float .f64 0, .bool false]) ∧ w = w' := by
  go_enter Try.func20, Try.ntmps20
  go_wp2_with (go_at_call 33; refine (ext_few _ _ _ _ _ _ _ _ h2).mono ?_; rintro e w' ⟨rfl, rfl⟩)
  go_ret2
  exact ⟨rfl, rfl⟩

theorem zzext_any (b off n c : Nat) (T : Nat → Int) (V : Nat → Nat) (t rng : Int) (counter ps : Bool) (w : World) (hr : Reads w b off n T V) (h2 : 2 ≤ n) (hn : n ≤ 1048576) (hc : n ≤ c) :
    Calls Try.prog 20 #[.slice (some ⟨b, off, Option.none⟩) n c, .int .i64 t, .int .i64 rng, .bool counter, .bool ps] w fun e w' => ∃ r, e = .returned (.tuple #[.float .f64 r, .bool true]) ∧
      canon r = extG (fun i => canon (V i)) n (wrap64 (wrap64 (T 0 - t) + rng)) (wrap64 (t - T (n - 1))) (wrap64 (T (n - 1) - T 0)) rng counter ps ∧ Below w.heap.size w w' := by
  go_enter Try.func20, Try.ntmps20
  go_wp2_with (go_at_call 33; refine (ext_any b off n c T V t rng counter ps w hr h2 hn hc).mono ?_; rintro e w' ⟨r, rfl, hcr, hB⟩)
  go_ret2
  exact ⟨_, rfl, hcr, hB⟩

/-- 'shiftedModel' of fewer than two points: whatever it holds. -/
theorem shifted_nil (k0 : Int) (w : World) :
    Calls Try.prog 21 #[.slice Option.none 0 0, .int .i64 k0] w fun e w' => e = .returned (.slice Option.none 0 0) ∧ Below w.heap.size w w' := by
  have q22 : ∀ (w : World) (a : Option Addr) (n c n' c' : Nat), (binOp .eql 22 (.slice a n c) (.slice Option.none n' c')).run Try.prog w = .ok (.bool a.isNone) w := fun w a n c n' c' => Lib.run_eql_slice_nil w _ _ a n c n' c' Try.underlying22
  go_enter Try.func21, Try.ntmps21
  go_wp2
  go_ret
  exact ⟨rfl, Below.refl _ _⟩
theorem shifted_zero (x : Addr) (c : Nat) (k0 : Int) (w : World) :
    Calls Try.prog 21 #[.slice (some x) 0 c, .int .i64 k0] w fun e w' => e = .returned (.slice (some ⟨w.heap.size, 0, Option.none⟩) 0 0) ∧ Below w.heap.size w w' := by
  have q22 : ∀ (w : World) (a : Option Addr) (n c n' c' : Nat), (binOp .eql 22 (.slice a n c) (.slice Option.none n' c')).run Try.prog w = .ok (.bool a.isNone) w := fun w a n c n' c' => Lib.run_eql_slice_nil w _ _ a n c n' c' Try.underlying22
  go_enter Try.func21, Try.ntmps21
  go_wp2_with (at_make; refine wpList_make_pts _ rfl _ _ rfl 0 rfl rfl (by omega) ?_; intro w1 hR hB hS)
  go_loopw [6] (fun i wr => i = .int .i64 0 ∧ wr = w1) (fun i _ => 0)
  case atStart => exact ⟨rfl, rfl⟩
  case round =>
    obtain ⟨rfl, rfl⟩ := hrel
    go_wp2
    go_ret
    exact ⟨rfl, hB⟩
theorem negated_nil (w : World) :
    Calls Try.prog 23 #[.slice Option.none 0 0] w fun e w' => e = .returned (.slice Option.none 0 0) ∧ Below w.heap.size w w' := by
  have q22 : ∀ (w : World) (a : Option Addr) (n c n' c' : Nat), (binOp .eql 22 (.slice a n c) (.slice Option.none n' c')).run Try.prog w = .ok (.bool a.isNone) w := fun w a n c n' c' => Lib.run_eql_slice_nil w _ _ a n c n' c' Try.underlying22
  go_enter Try.func23, Try.ntmps23
  go_wp2
  go_ret
  exact ⟨rfl, Below.refl _ _⟩
theorem negated_zero (x : Addr) (c : Nat) (w : World) :
    Calls Try.prog 23 #[.slice (some x) 0 c] w fun e w' => e = .returned (.slice (some ⟨w.heap.size, 0, Option.none⟩) 0 0) ∧ Below w.heap.size w w' := by
  have q22 : ∀ (w : World) (a : Option Addr) (n c n' c' : Nat), (binOp .eql 22 (.slice a n c) (.slice Option.none n' c')).run Try.prog w = .ok (.bool a.isNone) w := fun w a n c n' c' => Lib.run_eql_slice_nil w _ _ a n c n' c' Try.underlying22
  go_enter Try.func23, Try.ntmps23
  go_wp2_with (at_make; refine wpList_make_pts _ rfl _ _ rfl 0 rfl rfl (by omega) ?_; intro w1 hR hB hS)
  go_loopw [4] (fun i wr => i = .int .i64 0 ∧ wr = w1) (fun i _ => 0)
  case atStart => exact ⟨rfl, rfl⟩
  case round =>
    obtain ⟨rfl, rfl⟩ := hrel
    go_wp2
    go_ret
    exact ⟨rfl, hB⟩

theorem shifted_any (a : Option Addr) (n c : Nat) (hc : a = Option.none → c = 0) (k0 : Int) (T : Nat → Int) (V : Nat → Nat) (w : World) (h : Pts w a n T V) (hn : n ≤ 1048576) :
    Calls Try.prog 21 #[.slice a n c, .int .i64 k0] w fun e w' => ∃ a', e = .returned (.slice a' n n) ∧ Pts w' a' n (fun i => wrap64 (T i + k0)) V ∧ Below w.heap.size w w' := by
  match a, hc, h with
  | Option.none, hc, h =>
    obtain rfl := h.1 rfl
    obtain rfl := hc rfl
    refine (shifted_nil k0 w).mono ?_
    rintro e w' ⟨rfl, hB⟩
    exact ⟨Option.none, rfl, ⟨fun _ => rfl, fun h => absurd h (by omega)⟩, hB⟩
  | some x, _, h =>
    by_cases h0 : n = 0
    · subst h0
      refine (shifted_zero x c k0 w).mono ?_
      rintro e w' ⟨rfl, hB⟩
      exact ⟨_, rfl, ⟨fun _ => rfl, fun h => absurd h (by omega)⟩, hB⟩
    · obtain ⟨b, off, hx, hr⟩ := h.2 (by omega)
      rw [hx]
      refine (shifted_pts b off n c k0 T V w hr hn).mono ?_
      rintro e w' ⟨rfl, hR, hB, _⟩
      exact ⟨_, rfl, ⟨fun h => (by cases h), fun _ => ⟨_, 0, rfl, hR⟩⟩, hB⟩

theorem negated_any (a : Option Addr) (n c : Nat) (hc : a = Option.none → c = 0) (T : Nat → Int) (V : Nat → Nat) (w : World) (h : Pts w a n T V) (hn : n ≤ 1048576) :
    Calls Try.prog 23 #[.slice a n c] w fun e w' => ∃ a', e = .returned (.slice a' n n) ∧ Pts w' a' n T (fun i => Op.negFloat .f64 (V i)) ∧ Below w.heap.size w w' := by
  match a, hc, h with
  | Option.none, hc, h =>
    obtain rfl := h.1 rfl
    obtain rfl := hc rfl
    refine (negated_nil w).mono ?_
    rintro e w' ⟨rfl, hB⟩
    exact ⟨Option.none, rfl, ⟨fun _ => rfl, fun h => absurd h (by omega)⟩, hB⟩
  | some x, _, h =>
    by_cases h0 : n = 0
    · subst h0
      refine (negated_zero x c w).mono ?_
      rintro e w' ⟨rfl, hB⟩
      exact ⟨_, rfl, ⟨fun _ => rfl, fun h => absurd h (by omega)⟩, hB⟩
    · obtain ⟨b, off, hx, hr⟩ := h.2 (by omega)
      rw [hx]
      refine (negated_pts b off n c T V w hr hn).mono ?_
      rintro e w' ⟨rfl, hR, hB, _⟩
      exact ⟨_, rfl, ⟨fun h => (by cases h), fun _ => ⟨_, 0, rfl, hR⟩⟩, hB⟩

/-- Points that lie below what has turned. -/
theorem pts_below {w w' : World} {a : Option Addr} {n : Nat} {T : Nat → Int} {V : Nat → Nat} (h : Pts w a n T V) (hB : Below w.heap.size w w') : Pts w' a n T V := by
  refine ⟨h.1, fun h0 => ?_⟩
  obtain ⟨b, off, ha, hR⟩ := h.2 h0
  have hb : b < w.heap.size := at_pt hR h0
  exact ⟨b, off, ha, fun i hi => ⟨(hB.cell (by exact hb)).trans (hR i hi).1, (hB.cell (by exact hb)).trans (hR i hi).2⟩⟩

/-- 'ZZExtrapolatedDelta', two points at least. -/
theorem zzext_pts (a : Option Addr) (n c : Nat) (T : Nat → Int) (V : Nat → Nat) (t rng : Int) (counter ps : Bool) (w : World) (h : Pts w a n T V) (h2 : 2 ≤ n) (hn : n ≤ 1048576) (hc : n ≤ c) :
    Calls Try.prog 20 #[.slice a n c, .int .i64 t, .int .i64 rng, .bool counter, .bool ps] w fun e w' => ∃ r, e = .returned (.tuple #[.float .f64 r, .bool true]) ∧
      canon r = extG (fun i => canon (V i)) n (wrap64 (wrap64 (T 0 - t) + rng)) (wrap64 (t - T (n - 1))) (wrap64 (T (n - 1) - T 0)) rng counter ps ∧ Below w.heap.size w w' := by
  obtain ⟨b, off, rfl, hR⟩ := h.2 (by omega)
  exact zzext_any b off n c T V t rng counter ps w hR h2 hn hc
end Go.Proofs.Qxb6601754a
