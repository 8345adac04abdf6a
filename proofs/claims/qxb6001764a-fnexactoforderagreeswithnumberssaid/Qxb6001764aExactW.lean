import Derived.Test.Qxb6001764aRows
import Derived.WalkKit
import Derived.WalkSpells
import Derived.WalkLawsBesides
import Derived.RegionTactic
import Derived.BigRegion
import Derived.Deep.QuietTactic
import Derived.BigQuiet
namespace Go.Proofs.Qxb6001764a
open Go.RowKit

/-! ### The plain part -/
/-- Go's three-way comparison. -/
def cmpI (x y : Int) : Int := if x < y then -1 else if y < x then 1 else 0
theorem cmpI_lt {x y : Int} (h : x < y) : cmpI x y = -1 := by unfold cmpI; rw [if_pos h]
theorem cmpI_gt {x y : Int} (h : y < x) : cmpI x y = 1 := by unfold cmpI; rw [if_neg (by omega), if_pos h]
theorem cmpI_eq {x y : Int} (h1 : ¬ x < y) (h2 : ¬ y < x) : cmpI x y = 0 := by unfold cmpI; rw [if_neg h1, if_neg h2]
theorem cmpI_neg (a b : Int) : cmpI a b = cmpI (-b) (-a) := by
  by_cases h1 : a < b
  · rw [cmpI_lt h1, cmpI_lt (by omega)]
  · by_cases h2 : b < a
    · rw [cmpI_gt h2, cmpI_gt (by omega)]
    · rw [cmpI_eq h1 h2, cmpI_eq (by omega) (by omega)]
/-- 'uint64(i)'. -/
def magP (i : Int) : Int := IntKind.u64.wrap i
/-- '-uint64(i)'. -/
def magN (i : Int) : Int := IntKind.u64.wrap (-IntKind.u64.wrap i)

theorem wrapU (i : Int) : IntKind.u64.wrap i = i % 18446744073709551616 := by
  simp [IntKind.wrap, IntKind.signed, IntKind.bits]

theorem magN_eq {i : Int} (h0 : -9223372036854775808 ≤ i) (h : i < 0) : magN i = -i := by
  unfold magN; rw [wrapU, wrapU]; omega
theorem magP_pos {i : Int} (h0 : 0 ≤ i) (h : i ≤ 9223372036854775807) : magP i = i := by
  unfold magP; rw [wrapU]; omega
theorem magP_neg {i : Int} (h0 : -9223372036854775808 ≤ i) (h : i < 0) : magP i = i + 18446744073709551616 := by
  unfold magP; rw [wrapU]; omega

/-! ### The walks -/
set_option maxHeartbeats 400000 in
theorem exactOf_neg (i : Int) (w : World) (h : i < 0) :
    Calls Try.prog 14 #[.agg #[.int .u8 1, .int .i64 i, .string ⟨#[]⟩]] w fun e w' => e = .returned (.agg #[.bool true, .int .u64 (magN i)]) ∧ Below w.heap.size w w' := by
  go_enter Try.func14, Try.ntmps14
  go_wp2
  exact bodyPost_ret (v := .agg #[.bool true, .int .u64 (magN i)]) (by simp [results, Try.results14, go_sem, magN]) rfl ⟨rfl, by repeat (first | exact Below.refl _ _ | refine Below.alloc ?_ (by simp <;> omega) _)⟩
set_option maxHeartbeats 400000 in
theorem exactOf_pos (i : Int) (w : World) (h0 : 0 ≤ i) :
    Calls Try.prog 14 #[.agg #[.int .u8 1, .int .i64 i, .string ⟨#[]⟩]] w fun e w' => e = .returned (.agg #[.bool false, .int .u64 (magP i)]) ∧ Below w.heap.size w w' := by
  go_enter Try.func14, Try.ntmps14
  go_wp2_with go_in
  exact bodyPost_ret (v := .agg #[.bool false, .int .u64 (magP i)]) (by simp [results, Try.results14, go_sem, magP]) rfl ⟨rfl, by repeat (first | exact Below.refl _ _ | refine Below.alloc ?_ (by simp <;> omega) _)⟩
set_option maxHeartbeats 400000 in
theorem exactOf_uint (i : Int) (w : World) :
    Calls Try.prog 14 #[.agg #[.int .u8 3, .int .i64 i, .string ⟨#[]⟩]] w fun e w' => e = .returned (.agg #[.bool false, .int .u64 (magP i)]) ∧ Below w.heap.size w w' := by
  go_enter Try.func14, Try.ntmps14
  go_wp2_with go_in
  exact bodyPost_ret (v := .agg #[.bool false, .int .u64 (magP i)]) (by simp [results, Try.results14, go_sem, magP]) rfl ⟨rfl, by repeat (first | exact Below.refl _ _ | refine Below.alloc ?_ (by simp <;> omega) _)⟩

set_option maxHeartbeats 400000 in
theorem zz_neg (i : Int) (w : World) (h : i < 0) :
    Calls Try.prog 5 #[.int .u8 1, .int .i64 i] w fun e w' => e = .returned (.tuple #[.bool true, .int .u64 (magN i)]) ∧ Below w.heap.size w w' := by
  go_enter Try.func5, Try.ntmps5
  go_wp2_with fail
  refine (exactOf_neg i w h).mono ?_
  rintro e w1 ⟨rfl, hB⟩
  go_wp2_with fail
  go_region
  all_goals go_wp2_with fail
  all_goals go_ret2
  all_goals exact ⟨rfl, (hB.alloc hB.size _).drew⟩
set_option maxHeartbeats 400000 in
theorem zz_pos (i : Int) (w : World) (h : 0 ≤ i) :
    Calls Try.prog 5 #[.int .u8 1, .int .i64 i] w fun e w' => e = .returned (.tuple #[.bool false, .int .u64 (magP i)]) ∧ Below w.heap.size w w' := by
  go_enter Try.func5, Try.ntmps5
  go_wp2_with fail
  refine (exactOf_pos i w h).mono ?_
  rintro e w1 ⟨rfl, hB⟩
  go_wp2_with fail
  go_region
  all_goals go_wp2_with fail
  all_goals go_ret2
  all_goals exact ⟨rfl, (hB.alloc hB.size _).drew⟩
set_option maxHeartbeats 400000 in
theorem zz_uint (i : Int) (w : World) :
    Calls Try.prog 5 #[.int .u8 3, .int .i64 i] w fun e w' => e = .returned (.tuple #[.bool false, .int .u64 (magP i)]) ∧ Below w.heap.size w w' := by
  go_enter Try.func5, Try.ntmps5
  go_wp2_with fail
  refine (exactOf_uint i w).mono ?_
  rintro e w1 ⟨rfl, hB⟩
  go_wp2_with fail
  go_region
  all_goals go_wp2_with fail
  all_goals go_ret2
  all_goals exact ⟨rfl, (hB.alloc hB.size _).drew⟩

theorem cmpU64_any (x y : Int) (w : World) : Calls Try.prog 15 #[.int .u64 x, .int .u64 y] w fun e w' => e = .returned (.int .i64 (cmpI x y)) ∧ w = w' := by
  by_cases h1 : x < y
  · go_enter Try.func15, Try.ntmps15
    go_wp2
    go_ret
    exact ⟨by rw [cmpI_lt h1]; rfl, rfl⟩
  · by_cases h2 : y < x
    · go_enter Try.func15, Try.ntmps15
      go_wp2
      go_ret
      exact ⟨by rw [cmpI_gt h2]; rfl, rfl⟩
    · go_enter Try.func15, Try.ntmps15
      go_wp2
      go_ret
      exact ⟨by rw [cmpI_eq (by omega) (by omega)]; rfl, rfl⟩

theorem cmpExact_tf (x y : Int) (w : World) : Calls Try.prog 6 #[.bool true, .int .u64 x, .bool false, .int .u64 y] w fun e w' => e = .returned (.int .i64 (-1)) ∧ w = w' := by
  go_enter Try.func6, Try.ntmps6
  go_wp2
  go_ret
  exact ⟨rfl, rfl⟩
theorem cmpExact_ft (x y : Int) (w : World) : Calls Try.prog 6 #[.bool false, .int .u64 x, .bool true, .int .u64 y] w fun e w' => e = .returned (.int .i64 1) ∧ w = w' := by
  go_enter Try.func6, Try.ntmps6
  go_wp2
  go_ret
  exact ⟨rfl, rfl⟩
theorem cmpExact_ff (x y : Int) (w : World) : Calls Try.prog 6 #[.bool false, .int .u64 x, .bool false, .int .u64 y] w fun e w' => e = .returned (.int .i64 (cmpI x y)) ∧ w = w' := by
  go_enter Try.func6, Try.ntmps6
  go_wp2_with (go_at_call 15; refine (cmpU64_any _ _ _).mono ?_; rintro e w' ⟨rfl, rfl⟩)
  go_ret
  exact ⟨rfl, rfl⟩
theorem neg_cmp (x y : Int) : wrap64 (-cmpI x y) = cmpI y x := by
  unfold cmpI wrap64; split <;> split <;> omega
theorem cmpExact_tt (x y : Int) (w : World) : Calls Try.prog 6 #[.bool true, .int .u64 x, .bool true, .int .u64 y] w fun e w' => e = .returned (.int .i64 (cmpI y x)) ∧ w = w' := by
  go_enter Try.func6, Try.ntmps6
  go_wp2_with (go_at_call 15; refine (cmpU64_any _ _ _).mono ?_; rintro e w' ⟨rfl, rfl⟩)
  go_ret
  exact ⟨by rw [← neg_cmp x y]; rfl, rfl⟩

theorem cmpNum_uu (a b : Int) (w : World) : Calls Try.prog 7 #[.int .i64 a, .bool true, .int .i64 b, .bool true] w fun e w' => e = .returned (.int .i64 (cmpI (magP a) (magP b))) ∧ w = w' := by
  go_enter Try.func7, Try.ntmps7
  go_wp2_with (go_at_call 15; refine (cmpU64_any _ _ _).mono ?_; rintro e w' ⟨rfl, rfl⟩)
  go_ret
  exact ⟨rfl, rfl⟩
theorem cmpNum_ui (a b : Int) (w : World) : Calls Try.prog 7 #[.int .i64 a, .bool true, .int .i64 b, .bool false] w fun e w' => e = .returned (.int .i64 1) ∧ w = w' := by
  go_enter Try.func7, Try.ntmps7
  go_wp2
  go_ret
  exact ⟨rfl, rfl⟩
theorem cmpNum_iu (a b : Int) (w : World) : Calls Try.prog 7 #[.int .i64 a, .bool false, .int .i64 b, .bool true] w fun e w' => e = .returned (.int .i64 (-1)) ∧ w = w' := by
  go_enter Try.func7, Try.ntmps7
  go_wp2
  go_ret
  exact ⟨rfl, rfl⟩
theorem cmpNum_ii (a b : Int) (w : World) : Calls Try.prog 7 #[.int .i64 a, .bool false, .int .i64 b, .bool false] w fun e w' => e = .returned (.int .i64 (cmpI a b)) ∧ w = w' := by
  by_cases h1 : a < b
  · go_enter Try.func7, Try.ntmps7
    go_wp2
    go_ret
    exact ⟨by rw [cmpI_lt h1]; rfl, rfl⟩
  · by_cases h2 : b < a
    · go_enter Try.func7, Try.ntmps7
      go_wp2
      go_ret
      exact ⟨by rw [cmpI_gt h2]; rfl, rfl⟩
    · go_enter Try.func7, Try.ntmps7
      go_wp2
      go_ret
      exact ⟨by rw [cmpI_eq (by omega) (by omega)]; rfl, rfl⟩

/-! ### The law's own walk -/
theorem walk3_a (a b : Int) (bU : Bool) (w : World) (h : 0 ≤ a) : Calls Try.prog 3 #[.int .i64 a, .bool true, .int .i64 b, .bool bU] w fun e w' => e = .returned (.bool true) ∧ Below w.heap.size w w' := by
  go_enter Try.func3, Try.ntmps3
  go_wp2
  go_ret
  exact ⟨rfl, Below.refl _ _⟩
theorem walk3_b (a b : Int) (aU : Bool) (w : World) (ha : aU = true → a < 0) (h : 0 ≤ b) : Calls Try.prog 3 #[.int .i64 a, .bool aU, .int .i64 b, .bool true] w fun e w' => e = .returned (.bool true) ∧ Below w.heap.size w w' := by
  cases aU with
  | false =>
    clear ha
    go_enter Try.func3, Try.ntmps3
    go_wp2
    go_ret
    exact ⟨rfl, Below.refl _ _⟩
  | true =>
    have ha' := ha rfl
    clear ha
    go_enter Try.func3, Try.ntmps3
    go_wp2
    go_ret
    exact ⟨rfl, Below.refl _ _⟩

/-- What each of the three kinds gives. -/
def Kind3 (U : Bool) (i : Int) (n : Bool) (m : Int) : Prop := (U = false ∧ i < 0 ∧ n = true ∧ m = magN i) ∨ (U = false ∧ 0 ≤ i ∧ n = false ∧ m = magP i) ∨ (U = true ∧ i < 0 ∧ n = false ∧ m = magP i)

theorem kind_of (U : Bool) (i : Int) (h : U = true → i < 0) : ∃ n m, Kind3 U i n m := by
  cases U
  · by_cases h0 : i < 0
    · exact ⟨true, magN i, .inl ⟨rfl, h0, rfl, rfl⟩⟩
    · exact ⟨false, magP i, .inr (.inl ⟨rfl, by omega, rfl, rfl⟩)⟩
  · exact ⟨false, magP i, .inr (.inr ⟨rfl, h rfl, rfl, rfl⟩)⟩

theorem zz_kind (U : Bool) (i : Int) (n : Bool) (m : Int) (w : World) (h : Kind3 U i n m) :
    Calls Try.prog 5 #[.int .u8 (if U then 3 else 1), .int .i64 i] w fun e w' => e = .returned (.tuple #[.bool n, .int .u64 m]) ∧ Below w.heap.size w w' := by
  rcases h with ⟨rfl, h0, rfl, rfl⟩ | ⟨rfl, h0, rfl, rfl⟩ | ⟨rfl, h0, rfl, rfl⟩
  · exact zz_neg i w h0
  · exact zz_pos i w h0
  · exact zz_uint i w

/-- The two comparisons agree: the value and both contracts. -/
theorem agree (aU bU : Bool) (a b : Int) (n1 n2 : Bool) (m1 m2 : Int) (ha : Kind3 aU a n1 m1) (hb : Kind3 bU b n2 m2)
    (a0 : -9223372036854775808 ≤ a) (a1 : a ≤ 9223372036854775807) (b0 : -9223372036854775808 ≤ b) (b1 : b ≤ 9223372036854775807) :
    ∃ c : Int, (∀ w, Calls Try.prog 6 #[.bool n1, .int .u64 m1, .bool n2, .int .u64 m2] w fun e w' => e = .returned (.int .i64 c) ∧ w = w') ∧
      ∀ w, Calls Try.prog 7 #[.int .i64 a, .bool aU, .int .i64 b, .bool bU] w fun e w' => e = .returned (.int .i64 c) ∧ w = w' := by
  rcases ha with ⟨rfl, ha, rfl, rfl⟩ | ⟨rfl, ha, rfl, rfl⟩ | ⟨rfl, ha, rfl, rfl⟩
  · rcases hb with ⟨rfl, hb, rfl, rfl⟩ | ⟨rfl, hb, rfl, rfl⟩ | ⟨rfl, hb, rfl, rfl⟩
    · refine ⟨cmpI a b, fun w => ?_, fun w => cmpNum_ii a b w⟩
      have e : cmpI a b = cmpI (magN b) (magN a) := by rw [magN_eq a0 ha, magN_eq b0 hb]; exact cmpI_neg a b
      rw [e]; exact cmpExact_tt _ _ w
    · refine ⟨-1, fun w => cmpExact_tf _ _ w, fun w => ?_⟩
      rw [← cmpI_lt (show a < b by omega)]; exact cmpNum_ii a b w
    · exact ⟨-1, fun w => cmpExact_tf _ _ w, fun w => cmpNum_iu a b w⟩
  · rcases hb with ⟨rfl, hb, rfl, rfl⟩ | ⟨rfl, hb, rfl, rfl⟩ | ⟨rfl, hb, rfl, rfl⟩
    · refine ⟨1, fun w => cmpExact_ft _ _ w, fun w => ?_⟩
      rw [← cmpI_gt (show b < a by omega)]; exact cmpNum_ii a b w
    · refine ⟨cmpI a b, fun w => ?_, fun w => cmpNum_ii a b w⟩
      rw [magP_pos ha a1, magP_pos hb b1]; exact cmpExact_ff _ _ w
    · refine ⟨-1, fun w => ?_, fun w => cmpNum_iu a b w⟩
      rw [magP_pos ha a1, magP_neg b0 hb, ← cmpI_lt (show a < b + 18446744073709551616 by omega)]; exact cmpExact_ff _ _ w
  · rcases hb with ⟨rfl, hb, rfl, rfl⟩ | ⟨rfl, hb, rfl, rfl⟩ | ⟨rfl, hb, rfl, rfl⟩
    · exact ⟨1, fun w => cmpExact_ft _ _ w, fun w => cmpNum_ui a b w⟩
    · refine ⟨1, fun w => ?_, fun w => cmpNum_ui a b w⟩
      rw [magP_neg a0 ha, magP_pos hb b1, ← cmpI_gt (show b < a + 18446744073709551616 by omega)]; exact cmpExact_ff _ _ w
    · exact ⟨cmpI (magP a) (magP b), fun w => cmpExact_ff _ _ w, fun w => cmpNum_uu a b w⟩

set_option maxHeartbeats 1000000 in
theorem walk3_go (a b : Int) (aU bU : Bool) (w : World) (ha : aU = true → a < 0) (hb : bU = true → b < 0)
    (a0 : -9223372036854775808 ≤ a) (a1 : a ≤ 9223372036854775807) (b0 : -9223372036854775808 ≤ b) (b1 : b ≤ 9223372036854775807) :
    Calls Try.prog 3 #[.int .i64 a, .bool aU, .int .i64 b, .bool bU] w fun e w' => e = .returned (.bool true) ∧ Below w.heap.size w w' := by
  obtain ⟨n1, m1, k1⟩ := kind_of aU a ha
  obtain ⟨n2, m2, k2⟩ := kind_of bU b hb
  obtain ⟨c, c1, c2⟩ := agree aU bU a b n1 n2 m1 m2 k1 k2 a0 a1 b0 b1
  have C1 : Hid (∀ w, Calls Try.prog 6 #[.bool n1, .int .u64 m1, .bool n2, .int .u64 m2] w fun e w' => e = .returned (.int .i64 c) ∧ w = w') := c1
  have C2 : Hid (∀ w, Calls Try.prog 7 #[.int .i64 a, .bool aU, .int .i64 b, .bool bU] w fun e w' => e = .returned (.int .i64 c) ∧ w = w') := c2
  have Z1 : Hid (∀ w, Calls Try.prog 5 #[.int .u8 (if aU then 3 else 1), .int .i64 a] w fun e w' => e = .returned (.tuple #[.bool n1, .int .u64 m1]) ∧ Below w.heap.size w w') := fun w => zz_kind aU a n1 m1 w k1
  have Z2 : Hid (∀ w, Calls Try.prog 5 #[.int .u8 (if bU then 3 else 1), .int .i64 b] w fun e w' => e = .returned (.tuple #[.bool n2, .int .u64 m2]) ∧ Below w.heap.size w w') := fun w => zz_kind bU b n2 m2 w k2
  clear c1 c2 k1 k2
  cases aU <;> cases bU
  all_goals
    try have ha' := ha rfl
    try have hb' := hb rfl
    clear ha hb
    go_enter Try.func3, Try.ntmps3
    go_wp2_with fail
    refine (Z1.out _).mono ?_
    rintro e w1 ⟨rfl, hB1⟩
    go_wp2_with fail
    refine (Z2.out _).mono ?_
    rintro e w2 ⟨rfl, hB2⟩
    go_wp2_with fail
    refine (C1.out _).mono ?_
    rintro e w3 ⟨rfl, rfl⟩
    go_wp2_with fail
    refine (C2.out _).mono ?_
    rintro e w4 ⟨rfl, rfl⟩
    go_wp2_with fail
    go_ret
    exact ⟨by simp, hB1.trans (hB2.mono hB1.size)⟩

theorem walk3 (a b : Int) (aU bU : Bool) (w : World)
    (a0 : -9223372036854775808 ≤ a) (a1 : a ≤ 9223372036854775807) (b0 : -9223372036854775808 ≤ b) (b1 : b ≤ 9223372036854775807) :
    Calls Try.prog 3 #[.int .i64 a, .bool aU, .int .i64 b, .bool bU] w fun e w' => e = .returned (.bool true) ∧ Below w.heap.size w w' := by
  by_cases ha : aU = true → a < 0
  · by_cases hb : bU = true → b < 0
    · exact walk3_go a b aU bU w ha hb a0 a1 b0 b1
    · cases bU with
      | false => exact absurd (fun h => by cases h) hb
      | true => exact walk3_b a b aU w ha (Int.not_lt.1 fun h => hb fun _ => h)
  · cases aU with
    | false => exact absurd (fun h => by cases h) ha
    | true => exact walk3_a a b bU w (Int.not_lt.1 fun h => ha fun _ => h)
end Go.Proofs.Qxb6001764a
