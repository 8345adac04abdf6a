import Derived.Test.Qxb6601754aMerge
import Derived.Test.Qxb6601754aSame
import Derived.Deep.RegionWith
namespace Go.Proofs.Qxb6601754a
open Go.RowKit
attribute [local go_sem] run_store_float

/-- 'ZZMergePoints'. -/
theorem zzmerge_any (ad0 bd0 : Option Addr) (Ta : Nat → Int) (Va : Nat → Nat) (n1 : Nat) (Tb : Nat → Int) (Vb : Nat → Nat) (n2 : Nat) (w : World) (h1 : Pts w ad0 n1 Ta Va) (h2 : Pts w bd0 n2 Tb Vb)
    (sa : Sorted Ta n1) (sb : Sorted Tb n2) (b1 : n1 ≤ 32768) (b2 : n2 ≤ 32768) :
    Calls Try.prog 13 #[.slice ad0 n1 n1, .slice bd0 n2 n2] w (MergePost Ta Va n1 Tb Vb n2 w) := by
  go_enter Try.func13, Try.ntmps13
  go_wp2_with fail
  refine (merge_any ad0 bd0 Ta Va n1 Tb Vb n2 w h1 h2 sa sb b1 b2).mono ?_
  rintro e w1 ⟨hB, ⟨rfl, hs⟩ | ⟨B, FT, FV, rfl, hR, hS, hM⟩⟩
  · have HS : Hid (∃ p q, p < n1 ∧ q < n2 ∧ Ta p = Tb q) := hs
    clear hs
    go_wp2_with fail
    go_ret2
    exact ⟨hB, .inl ⟨rfl, HS.out⟩⟩
  · go_wp2_with fail
    go_ret2
    exact ⟨hB, .inr ⟨B, FT, FV, rfl, hR, hS, hM⟩⟩

/-- What 'nondecreasing' says. -/
def NdPost (T : Nat → Int) (n : Nat) (e : Ending) : Prop := ∃ r, e = .returned (.bool r) ∧ (r = true → Sorted T n)

set_option maxHeartbeats 400000 in
theorem nd_zero (a : Option Addr) (c : Nat) (T : Nat → Int) (w : World) : Calls Try.prog 12 #[.slice a 0 c] w fun e w' => NdPost T 0 e ∧ ∃ m, w' = w.drewN m := by
  go_enter Try.func12, Try.ntmps12
  go_wp2
  go_loop [3] (fun i => i = .int .i64 1) (fun _ => 0)
  case atStart => rfl
  case round =>
    subst hrel
    go_wp2
    go_ret
    exact ⟨⟨true, rfl, fun _ i hi => absurd hi (by omega)⟩, 0, rfl⟩

set_option maxHeartbeats 1000000 in
theorem nd_pts (b off n c : Nat) (T : Nat → Int) (V : Nat → Nat) (w : World) (hr : Reads w b off n T V) (h1 : 1 ≤ n) (hn : n ≤ 1048576) :
    Calls Try.prog 12 #[.slice (some ⟨b, off, Option.none⟩) n c] w fun e w' => NdPost T n e ∧ ∃ m, w' = w.drewN m := by
  go_enter Try.func12, Try.ntmps12
  go_wp2
  go_loopw [3] (fun i wr => ∃ k : Nat, k ≤ n ∧ 1 ≤ k ∧ i = .int .i64 k ∧ (∀ j, j + 1 < k → T j ≤ T (j + 1)) ∧ ∃ m, wr = w.drewN m) (fun i _ => n - (intOf i).toNat)
  case atStart => exact ⟨1, h1, Nat.le_refl _, rfl, fun j hj => absurd hj (by omega), 0, rfl⟩
  case round =>
    obtain ⟨k, hk, hk1, rfl, hI, m, rfl⟩ := hrel
    by_cases hlt : k < n
    · have c0 := (hr k hlt).1
      have c1 := (hr (k - 1) (by omega)).1
      have hkz : (0 : Int) ≤ (k : Int) - 1 := by omega
      by_cases h3 : T k < T (k - 1)
      · clear hI
        go_wp2
        go_quiet (fail)
        go_wp2
        go_ret
        exact ⟨⟨false, rfl, fun h => (by cases h)⟩, _, World.drewN_drewN _ _ _⟩
      · have HI : Hid (∀ j, j + 1 < k + 1 → T j ≤ T (j + 1)) := fun j hj => by
          by_cases e : j + 1 = k
          · rw [e, show j = k - 1 by omega]; omega
          · exact hI j (by omega)
        clear hI
        go_wp2
        go_quiet (fail)
        go_wp2
        go_roundw
        case rel => exact ⟨k + 1, by omega, by omega, by go_num, HI.out, _, rfl⟩
        case measure => simp [intOf]; omega
    · have HS : Hid (Sorted T n) := fun i hi => hI i (by omega)
      clear hI
      go_wp2
      go_ret
      exact ⟨⟨true, rfl, fun _ => HS.out⟩, _, rfl⟩

theorem nd_any (a : Option Addr) (n c : Nat) (T : Nat → Int) (V : Nat → Nat) (w : World) (h : Pts w a n T V) (hn : n ≤ 1048576) : Calls Try.prog 12 #[.slice a n c] w fun e w' => NdPost T n e ∧ ∃ m, w' = w.drewN m := by
  by_cases h0 : n = 0
  · subst h0; exact nd_zero a c T w
  · obtain ⟨b, off, rfl, hR⟩ := h.2 (by omega)
    exact nd_pts b off n c T V w hR (by omega) hn

set_option maxHeartbeats 400000 in
theorem cl_zero (a : Option Addr) (c : Nat) (T : Nat → Int) (t : Int) (w : World) : Calls Try.prog 15 #[.slice a 0 c, .int .i64 t] w fun e w' => (∃ L : Nat, e = .returned (.int .i64 L) ∧ IsRank T 0 t L) ∧ w = w' := by
  go_enter Try.func15, Try.ntmps15
  go_wp2
  go_loop [5, 6] (fun lo hi => lo = .int .i64 0 ∧ hi = .int .i64 0) (fun _ _ => 0)
  case atStart => exact ⟨rfl, rfl⟩
  case round =>
    obtain ⟨rfl, rfl⟩ := hrel
    go_wp2
    go_ret
    exact ⟨⟨0, rfl, Nat.le_refl _, fun q hq => absurd hq (by omega), fun q _ hq => absurd hq (by omega)⟩, rfl⟩

set_option maxHeartbeats 1000000 in
theorem cl_pts (b off n c : Nat) (T : Nat → Int) (V : Nat → Nat) (t : Int) (w : World) (hr : Reads w b off n T V) (hs : Sorted T n) (hn : n ≤ 1048576) :
    Calls Try.prog 15 #[.slice (some ⟨b, off, Option.none⟩) n c, .int .i64 t] w fun e w' => (∃ L : Nat, e = .returned (.int .i64 L) ∧ IsRank T n t L) ∧ w = w' := by
  go_enter Try.func15, Try.ntmps15
  go_wp2
  go_loop [5, 6] (fun lo hi => ∃ l h : Nat, l ≤ h ∧ h ≤ n ∧ lo = .int .i64 l ∧ hi = .int .i64 h ∧ (∀ q, q < l → T q < t) ∧ ∀ q, h ≤ q → q < n → t ≤ T q) (fun lo hi => (intOf hi).toNat - (intOf lo).toNat)
  case atStart => exact ⟨0, n, by omega, Nat.le_refl _, rfl, rfl, fun q hq => absurd hq (by omega), fun q h1 h2 => absurd h2 (by omega)⟩
  case round =>
    obtain ⟨l, h, hlh, hhn, rfl, rfl, hL, hH⟩ := hrel
    by_cases hlt : l < h
    · have c0 := (hr (l + (h - l) / 2) (by omega)).1
      by_cases ht : T (l + (h - l) / 2) < t
      · have HL : Hid (∀ q, q < l + (h - l) / 2 + 1 → T q < t) := fun q hq => by
          have := hs.le' (i := q) (j := l + (h - l) / 2) (by omega) (by omega)
          omega
        have HH : Hid (∀ q, h ≤ q → q < n → t ≤ T q) := hH
        clear hL hH
        go_wp2
        go_round
        case rel => exact ⟨l + (h - l) / 2 + 1, h, by omega, hhn, by go_num, rfl, HL.out, HH.out⟩
        case measure => simp [intOf]; omega
      · have HL : Hid (∀ q, q < l → T q < t) := hL
        have HH : Hid (∀ q, l + (h - l) / 2 ≤ q → q < n → t ≤ T q) := fun q h1 h2 => by
          have := hs.le' (i := l + (h - l) / 2) (j := q) h1 h2
          omega
        clear hL hH
        go_wp2
        go_round
        case rel => exact ⟨l, l + (h - l) / 2, by omega, by omega, rfl, by go_num, HL.out, HH.out⟩
        case measure => simp [intOf]; omega
    · have hR : IsRank T n t l := ⟨by omega, hL, fun q h1 h2 => hH q (by omega) h2⟩
      have HR : Hid (IsRank T n t l) := hR
      clear hR hL hH
      go_wp2
      go_ret
      exact ⟨⟨l, rfl, HR.out⟩, rfl⟩

theorem cl_any (a : Option Addr) (n c : Nat) (T : Nat → Int) (V : Nat → Nat) (t : Int) (w : World) (h : Pts w a n T V) (hs : Sorted T n) (hn : n ≤ 1048576) :
    Calls Try.prog 15 #[.slice a n c, .int .i64 t] w fun e w' => (∃ L : Nat, e = .returned (.int .i64 L) ∧ IsRank T n t L) ∧ w = w' := by
  by_cases h0 : n = 0
  · subst h0; exact cl_zero a c T t w
  · obtain ⟨b, off, rfl, hR⟩ := h.2 (by omega)
    exact cl_pts b off n c T V t w hR hs hn

/-- 'samePoint' of one point twice. -/
theorem sp_any (t : Int) (v : Nat) (w : World) : Calls Try.prog 16 #[.agg #[.int .i64 t, .float .f64 v], .agg #[.int .i64 t, .float .f64 v]] w fun e w' => e = .returned (.bool true) ∧ Below w.heap.size w w' := by
  go_enter Try.func16, Try.ntmps16
  go_wp2_with fail
  refine (same_any v v rfl _).mono ?_
  rintro e w1 ⟨rfl, n1, rfl⟩
  go_wp2_with fail
  go_ret
  exact ⟨rfl, by repeat (first | exact Below.refl _ _ | refine below_drewN ?_ _ | refine Below.drew ?_ | refine Below.alloc ?_ (by simp) _)⟩

theorem zz11_no1 (a : Option Addr) (n c : Nat) (a' : Option Addr) (n' c' : Nat) (w : World) (h : 1048576 < n) :
    Calls Try.prog 11 #[.slice a n c, .slice a' n' c'] w fun e w' => e = .returned (.bool false) ∧ w = w' := by
  go_enter Try.func11, Try.ntmps11
  go_wp2
  go_ret
  exact ⟨rfl, rfl⟩
theorem zz11_no2 (a : Option Addr) (n c : Nat) (a' : Option Addr) (n' c' : Nat) (w : World) (h : n ≤ 1048576) (h2 : 1048576 < n') :
    Calls Try.prog 11 #[.slice a n c, .slice a' n' c'] w fun e w' => e = .returned (.bool false) ∧ w = w' := by
  go_enter Try.func11, Try.ntmps11
  go_wp2
  go_ret
  exact ⟨rfl, rfl⟩
theorem zz11_no3 (a : Option Addr) (n c : Nat) (a' : Option Addr) (n' c' : Nat) (w : World) (h : n ≤ 1048576) (h2 : n' ≤ 1048576) (h3 : 1048576 < n + n') :
    Calls Try.prog 11 #[.slice a n c, .slice a' n' c'] w fun e w' => e = .returned (.bool false) ∧ w = w' := by
  have h4 : (1048576 : Int) < (n : Int) + (n' : Int) := by omega
  go_enter Try.func11, Try.ntmps11
  go_wp2
  go_ret
  exact ⟨rfl, rfl⟩
theorem zz11_yes (a : Option Addr) (n c : Nat) (a' : Option Addr) (n' c' : Nat) (w : World) (h : n + n' ≤ 1048576) :
    Calls Try.prog 11 #[.slice a n c, .slice a' n' c'] w fun e w' => e = .returned (.bool true) ∧ w = w' := by
  have h4 : ¬ (1048576 : Int) < (n : Int) + (n' : Int) := by omega
  have h5 : ¬ (1048576 : Int) < (n : Int) := by omega
  have h6 : ¬ (1048576 : Int) < (n' : Int) := by omega
  go_enter Try.func11, Try.ntmps11
  go_wp2
  go_ret
  exact ⟨rfl, rfl⟩
theorem zz11_any (a : Option Addr) (n c : Nat) (a' : Option Addr) (n' c' : Nat) (w : World) :
    Calls Try.prog 11 #[.slice a n c, .slice a' n' c'] w fun e w' => e = .returned (.bool (decide (n + n' ≤ 1048576))) ∧ w = w' := by
  by_cases h : n + n' ≤ 1048576
  · rw [decide_eq_true h]; exact zz11_yes a n c a' n' c' w h
  · rw [decide_eq_false h]
    by_cases h1 : 1048576 < n
    · exact zz11_no1 a n c a' n' c' w h1
    · by_cases h2 : 1048576 < n'
      · exact zz11_no2 a n c a' n' c' w (by omega) h2
      · exact zz11_no3 a n c a' n' c' w (by omega) (by omega) (by omega)
end Go.Proofs.Qxb6601754a
