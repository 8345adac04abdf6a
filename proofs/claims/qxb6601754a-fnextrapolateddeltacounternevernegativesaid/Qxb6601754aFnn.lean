import Derived.Test.Qxb6601754aInst
import Derived.Test.Qxb6601754aNorm
namespace Go.Proofs.Qxb6601754a
open Go.RowKit

/-- 'v >= 0 && !(v > maxFloat64)'. -/
def fnn (v : Nat) : Bool := (FloatKind.f64.format.order v 0 == some .gt || FloatKind.f64.format.order v 0 == some .eq) && !(FloatKind.f64.format.order v 9218868437227405311 == some .gt)

/-- What 'finiteNonNegative' says. -/
def FnnPost (V : Nat → Nat) (n : Nat) (e : Ending) : Prop := ∃ r, e = .returned (.bool r) ∧ (r = true → ∀ i, i < n → fnn (V i) = true)

set_option maxHeartbeats 400000 in
theorem fnn_any (b off n c : Nat) (T : Nat → Int) (V : Nat → Nat) (w : World) (hr : Reads w b off n T V) (hn : n ≤ 1048576) :
    Calls Try.prog 27 #[.slice (some ⟨b, off, Option.none⟩) n c] w fun e w' => FnnPost V n e ∧ w = w' := by
  go_enter Try.func27, Try.ntmps27
  go_wp2
  go_loop [3] (fun i => ∃ k : Nat, k ≤ n ∧ i = .int .i64 k ∧ ∀ j, j < k → fnn (V j) = true) (fun i => n - (intOf i).toNat)
  case atStart => exact ⟨0, Nat.zero_le _, rfl, fun j hj => absurd hj (by omega)⟩
  case round =>
    obtain ⟨k, hk, rfl, hD⟩ := hrel
    by_cases hlt : k < n
    · have c1 := (hr k hlt).2
      cases h1 : (FloatKind.f64.format.order (V k) 0 == some .gt || FloatKind.f64.format.order (V k) 0 == some .eq) with
      | false =>
        go_wp2
        go_ret
        exact ⟨⟨false, rfl, fun h => (by cases h)⟩, rfl⟩
      | true =>
        cases h2 : (FloatKind.f64.format.order (V k) 9218868437227405311 == some .gt) with
        | true =>
          go_wp2
          go_ret
          exact ⟨⟨false, rfl, fun h => (by cases h)⟩, rfl⟩
        | false =>
          have hk1 : fnn (V k) = true := by unfold fnn; rw [h1, h2]; rfl
          have H1 : Hid (∀ j, j < k + 1 → fnn (V j) = true) := fun j hj => by
            by_cases e : j = k
            · rw [e]; exact hk1
            · exact hD j (by omega)
          clear hk1 hD
          go_wp2
          go_round
          case rel => exact ⟨k + 1, by omega, by go_num, H1.out⟩
          case measure => simp [intOf]; omega
    · go_wp2
      go_ret
      exact ⟨⟨true, rfl, fun _ i hi => hD i (by omega)⟩, rfl⟩
end Go.Proofs.Qxb6601754a
