import Derived.Test.Qxb6601754aFnn
namespace Go.Proofs.Qxb6601754a
open Go.RowKit

/-- What 'inWindowIncreasing' says. -/
def WinPost (T : Nat → Int) (n : Nat) (t lo : Int) (e : Ending) : Prop :=
  ∃ r, e = .returned (.bool r) ∧ (r = true → (∀ i, i < n → lo < T i ∧ T i ≤ t) ∧ ∀ i, i + 1 < n → T i < T (i + 1))

set_option maxHeartbeats 1000000 in
theorem win_any (b off n c : Nat) (t rng : Int) (T : Nat → Int) (V : Nat → Nat) (w : World) (hr : Reads w b off n T V) (hn : n ≤ 1048576) :
    Calls Try.prog 26 #[.slice (some ⟨b, off, Option.none⟩) n c, .int .i64 t, .int .i64 rng] w fun e w' => WinPost T n t (wrap64 (t - rng)) e ∧ ∃ m, w' = w.drewN m := by
  go_enter Try.func26, Try.ntmps26
  go_wp2
  go_loopw [8] (fun i wr => ∃ k : Nat, k ≤ n ∧ i = .int .i64 k ∧ (∀ j, j < k → wrap64 (t - rng) < T j ∧ T j ≤ t) ∧ (∀ j, j + 1 < k → T j < T (j + 1)) ∧ ∃ m, wr = w.drewN m) (fun i _ => n - (intOf i).toNat)
  case atStart => exact ⟨0, Nat.zero_le _, rfl, fun j hj => absurd hj (by omega), fun j hj => absurd hj (by omega), 0, rfl⟩
  case round =>
    obtain ⟨k, hk, rfl, hD, hI, m, rfl⟩ := hrel
    by_cases hlt : k < n
    · have c0 := (hr k hlt).1
      by_cases h1 : T k ≤ wrap64 (t - rng)
      · clear hD hI
        go_wp2
        go_ret
        exact ⟨⟨false, rfl, fun h => (by cases h)⟩, _, rfl⟩
      · by_cases h2 : t < T k
        · clear hD hI
          go_wp2
          go_ret
          exact ⟨⟨false, rfl, fun h => (by cases h)⟩, _, rfl⟩
        · have HD : Hid (∀ j, j < k + 1 → wrap64 (t - rng) < T j ∧ T j ≤ t) := fun j hj => by
            by_cases e : j = k
            · rw [e]; omega
            · exact hD j (by omega)
          clear hD
          by_cases h0 : k = 0
          · have HI : Hid (∀ j, j + 1 < k + 1 → T j < T (j + 1)) := fun j hj => absurd hj (by omega)
            clear hI
            subst h0
            have c00 : w.cell? ⟨b, off, Option.none⟩ = some (.int .i64 (T 0)) := by simpa using c0
            have hg : decide ((0 : Int) < ((0 : Nat) : Int)) = false := decide_eq_false (by omega)
            go_wp2
            go_quiet (fail)
            go_wp2
            go_roundw
            case rel => exact ⟨1, by omega, by go_num, HD.out, HI.out, _, rfl⟩
            case measure => simp [intOf]; omega
          · have hg : (0 : Int) < (k : Int) := by omega
            have hg2 : 0 < k := by omega
            have c1 := (hr (k - 1) (by omega)).1
            by_cases h3 : T k ≤ T (k - 1)
            · clear hI HD
              go_wp2
              go_quiet (fail)
              go_wp2
              go_ret
              exact ⟨⟨false, rfl, fun h => (by cases h)⟩, _, World.drewN_drewN _ _ _⟩
            · have HI : Hid (∀ j, j + 1 < k + 1 → T j < T (j + 1)) := fun j hj => by
                by_cases e : j + 1 = k
                · rw [e, show j = k - 1 by omega]; omega
                · exact hI j (by omega)
              clear hI
              go_wp2
              go_quiet (fail)
              go_wp2
              go_roundw
              case rel => exact ⟨k + 1, by omega, by go_num, HD.out, HI.out, _, rfl⟩
              case measure => simp [intOf]; omega
    · go_wp2
      go_ret
      exact ⟨⟨true, rfl, fun _ => ⟨fun i hi => hD i (by omega), fun i hi => hI i (by omega)⟩⟩, _, rfl⟩
end Go.Proofs.Qxb6601754a
