import Derived.Test.Qxb6601754aBase
import Derived.RegionTactic
import Derived.BigRegion
namespace Go.Proofs.Qxb6601754a
open Go.RowKit
attribute [local go_sem] run_store_float

theorem Try.info34 : (Try.prog.info? 34).map (fun i => (i.zero, i.size, i.bytes)) = some (some (.agg #[.int .i64 0, .float .f64 0]), 2, 16) := by kernel_rfl

/-- A block of one's own: 'm' cells that may be written. -/
def Room (w : World) (B m : Nat) : Prop := (∀ j, j < m → ∃ v, w.cell? ⟨B, j, Option.none⟩ = some v) ∧ ∀ j, w.frozen? ⟨B, j, Option.none⟩ = false

/-- The first 'n' points behind 'a' read as 'T', 'V'. -/
def Reads (w : World) (b off n : Nat) (T : Nat → Int) (V : Nat → Nat) : Prop :=
  ∀ i, i < n → w.cell? ⟨b, off + i * 2, Option.none⟩ = some (.int .i64 (T i)) ∧ w.cell? ⟨b, off + i * 2 + 1, Option.none⟩ = some (.float .f64 (V i))

/-- 'make([]model.Point, n)'. -/
theorem wpList_make_pts (w : World) {ops : Array Oper} {rest : List Oper} {o : Oper} {a : Act} {Q : Exit → Act → World → Prop}
    (hg : o.guard = Option.none) (l c : Operand) (hop : o.op = Op.makeSlice 25 l c) (n : Nat)
    (hl : a.eval l = .int .i64 n) (hc : a.eval c = .int .i64 n) (hn : n ≤ 1048576)
    (hK : ∀ w', Room w' w.heap.size (n * 2) → Below w.heap.size w w' → w.heap.size < w'.heap.size → wpList Try.prog ops Q rest (a.put o.dst (.slice (some ⟨w.heap.size, 0, Option.none⟩) n n)) w') :
    wpList Try.prog ops Q (o :: rest) a w := by
  refine wpList_plain hg fun K hK' => ?_
  obtain ⟨i0, hi, hz0, hz1, hz2⟩ := info_parts Try.info34
  have hrun := run_make (P := Try.prog) w 25 34 i0 (.agg #[.int .i64 0, .float .f64 0]) Try.underlying25 hi hz0 .i64 .i64 (n : Int) (n : Int) (by omega) (by omega) (by rw [hz2]; omega) (by omega)
  rw [Int.toNat_natCast, hz1] at hrun
  unfold Oper.wp
  simp only [execOp, hop, hl, hc]
  generalize hC : madeCells (Value.agg #[.int .i64 0, .float .f64 0]).cells (n * 2) = C at hrun
  have hsz : C.size = n * 2 := by rw [← hC]; exact size_madeCells _ _
  simp [hrun, Result.andThen]
  refine hK' _ _ (hK _ ⟨fun j hj => ?_, fun j => ?_⟩ ((Below.refl _ _).alloc (Nat.le_refl _) _) (by simp))
  · rw [World.cell?_alloc_new]
    exact ⟨C[j]'(by omega), by simp [hsz, hj]⟩
  · exact World.frozen?_alloc_new _ _ _ _

theorem at_pt {w : World} {b off n : Nat} {T : Nat → Int} {V : Nat → Nat} (h : Reads w b off n T V) {k : Nat} (hk : k < n) : b < w.heap.size := World.block_lt_of_cell? _ _ (h k hk).1

/-- One point written behind 'k' that stand. -/
theorem pts_step {wr : World} {B n k : Nat} {T : Nat → Int} {V : Nat → Nat} (hk : k < n) (hR : Room wr B (n * 2)) (hD : Reads wr B 0 k T V) :
    Room ((wr.setCell ⟨B, k * 2, Option.none⟩ (.int .i64 (T k))).setCell ⟨B, k * 2 + 1, Option.none⟩ (.float .f64 (V k))) B (n * 2) ∧
    Reads ((wr.setCell ⟨B, k * 2, Option.none⟩ (.int .i64 (T k))).setCell ⟨B, k * 2 + 1, Option.none⟩ (.float .f64 (V k))) B 0 (k + 1) T V := by
  obtain ⟨u0, g0⟩ := hR.1 (k * 2) (by omega)
  obtain ⟨u1, g1⟩ := hR.1 (k * 2 + 1) (by omega)
  have g2 : (wr.setCell ⟨B, k * 2, Option.none⟩ (.int .i64 (T k))).cell? ⟨B, k * 2 + 1, Option.none⟩ = some u1 := by rw [World.cell?_setCell_other _ _ _ _ (by simp)]; exact g1
  have key : ∀ j, ((wr.setCell ⟨B, k * 2, Option.none⟩ (.int .i64 (T k))).setCell ⟨B, k * 2 + 1, Option.none⟩ (.float .f64 (V k))).cell? ⟨B, j, Option.none⟩ =
      if j = k * 2 then some (.int .i64 (T k)) else if j = k * 2 + 1 then some (.float .f64 (V k)) else wr.cell? ⟨B, j, Option.none⟩ := by
    intro j
    by_cases h1 : j = k * 2 + 1
    · subst h1
      rw [if_neg (by omega), if_pos rfl]
      exact World.cell?_setCell_same _ _ _ g2
    · rw [World.cell?_setCell_other _ _ _ _ (by intro h; cases h; omega)]
      by_cases h0 : j = k * 2
      · subst h0
        rw [if_pos rfl]
        exact World.cell?_setCell_same _ _ _ g0
      · rw [World.cell?_setCell_other _ _ _ _ (by intro h; cases h; omega), if_neg h0, if_neg h1]
  refine ⟨⟨fun j hj => ?_, fun j => ?_⟩, fun i hi => ?_⟩
  · rw [key]
    split
    · exact ⟨_, rfl⟩
    · split
      · exact ⟨_, rfl⟩
      · exact hR.1 j hj
  · rw [World.frozen?_setCell, World.frozen?_setCell]; exact hR.2 j
  · rw [key, key]
    by_cases h : i = k
    · subst h
      simp
    · have := hD i (by omega)
      rw [if_neg (by omega), if_neg (by omega), if_neg (by omega), if_neg (by omega)]
      exact this

set_option maxHeartbeats 1000000 in
theorem toModel_pts (b off n c : Nat) (T : Nat → Int) (V : Nat → Nat) (w : World) (hr : Reads w b off n T V) (hn : n ≤ 1048576) :
    Calls Try.prog 14 #[.slice (some ⟨b, off, Option.none⟩) n c] w fun e w' => e = .returned (.slice (some ⟨w.heap.size, 0, Option.none⟩) n n) ∧ Reads w' w.heap.size 0 n T V ∧ Below w.heap.size w w' ∧ w.heap.size < w'.heap.size := by
  have q22 : ∀ (w : World) (a : Option Addr) (n c n' c' : Nat), (binOp .eql 22 (.slice a n c) (.slice Option.none n' c')).run Try.prog w = .ok (.bool a.isNone) w := fun w a n c n' c' => Lib.run_eql_slice_nil w _ _ a n c n' c' Try.underlying22
  go_enter Try.func14, Try.ntmps14
  go_wp2_with (at_make; refine wpList_make_pts _ rfl _ _ rfl n rfl rfl hn ?_; intro w1 hR hB hS)
  go_loopw [4] (fun i wr => ∃ k : Nat, k ≤ n ∧ i = .int .i64 k ∧ Room wr w.heap.size (n * 2) ∧ Below w.heap.size w wr ∧ w.heap.size < wr.heap.size ∧ Reads wr w.heap.size 0 k T V) (fun i _ => n - (intOf i).toNat)
  case atStart => exact ⟨0, Nat.zero_le _, rfl, hR, hB, hS, fun i hi => absurd hi (by omega)⟩
  case round =>
    obtain ⟨k, hk, rfl, hRr, hBr, hSr, hD⟩ := hrel
    by_cases hlt : k < n
    · have hbl := at_pt hr hlt
      have c0 : wr.cell? ⟨b, off + k * 2, Option.none⟩ = some (.int .i64 (T k)) := (hBr.cell (by exact hbl)).trans (hr k hlt).1
      have c1 : wr.cell? ⟨b, off + k * 2 + 1, Option.none⟩ = some (.float .f64 (V k)) := (hBr.cell (by exact hbl)).trans (hr k hlt).2
      obtain ⟨u0, g0⟩ := hRr.1 (k * 2) (by omega)
      obtain ⟨u1, g1⟩ := hRr.1 (k * 2 + 1) (by omega)
      have f0 := hRr.2 (k * 2)
      have f1 := hRr.2 (k * 2 + 1)
      have g2 : (wr.setCell ⟨w.heap.size, k * 2, Option.none⟩ (.int .i64 (T k))).cell? ⟨w.heap.size, k * 2 + 1, Option.none⟩ = some u1 := by rw [World.cell?_setCell_other _ _ _ _ (by simp)]; exact g1
      go_wp2
      go_region
      go_wp2
      have R := pts_step hlt hRr hD
      go_roundw
      case rel => exact ⟨k + 1, by omega, by go_num, R.1, ((hBr.setCell (by exact Nat.le_refl _) _).setCell (by exact Nat.le_refl _) _).drew, by simpa using hSr, R.2⟩
      case measure => simp [intOf]; omega
    · go_wp2
      go_ret
      obtain rfl : k = n := by omega
      exact ⟨rfl, hD, hBr, hSr⟩

set_option maxHeartbeats 400000 in
theorem toModel_nil (w : World) :
    Calls Try.prog 14 #[.slice Option.none 0 0] w fun e w' => e = .returned (.slice Option.none 0 0) ∧ Below w.heap.size w w' := by
  have q22 : ∀ (w : World) (a : Option Addr) (n c n' c' : Nat), (binOp .eql 22 (.slice a n c) (.slice Option.none n' c')).run Try.prog w = .ok (.bool a.isNone) w := fun w a n c n' c' => Lib.run_eql_slice_nil w _ _ a n c n' c' Try.underlying22
  go_enter Try.func14, Try.ntmps14
  go_wp2
  go_ret
  exact ⟨rfl, Below.refl _ _⟩

set_option maxHeartbeats 400000 in
theorem toModel_zero (x : Addr) (c : Nat) (w : World) :
    Calls Try.prog 14 #[.slice (some x) 0 c] w fun e w' => e = .returned (.slice (some ⟨w.heap.size, 0, Option.none⟩) 0 0) ∧ Below w.heap.size w w' := by
  have q22 : ∀ (w : World) (a : Option Addr) (n c n' c' : Nat), (binOp .eql 22 (.slice a n c) (.slice Option.none n' c')).run Try.prog w = .ok (.bool a.isNone) w := fun w a n c n' c' => Lib.run_eql_slice_nil w _ _ a n c n' c' Try.underlying22
  go_enter Try.func14, Try.ntmps14
  go_wp2_with (at_make; refine wpList_make_pts _ rfl _ _ rfl 0 rfl rfl (by omega) ?_; intro w1 hR hB hS)
  go_loopw [4] (fun i wr => i = .int .i64 0 ∧ wr = w1) (fun i _ => 0)
  case atStart => exact ⟨rfl, rfl⟩
  case round =>
    obtain ⟨rfl, rfl⟩ := hrel
    go_wp2
    go_ret
    exact ⟨rfl, hB⟩

/-- The points behind a slice of 'n' points, nil or not. -/
def Pts (w : World) (a : Option Addr) (n : Nat) (T : Nat → Int) (V : Nat → Nat) : Prop :=
  (a = Option.none → n = 0) ∧ (0 < n → ∃ b off, a = some ⟨b, off, Option.none⟩ ∧ Reads w b off n T V)

/-- 'toModel'. -/
theorem toModel_any (a : Option Addr) (n c : Nat) (hc : a = Option.none → c = 0) (T : Nat → Int) (V : Nat → Nat) (w : World) (h : Pts w a n T V) (hn : n ≤ 1048576) :
    Calls Try.prog 14 #[.slice a n c] w fun e w' => ∃ a', e = .returned (.slice a' n n) ∧ Pts w' a' n T V ∧ Below w.heap.size w w' := by
  match a, hc, h with
  | Option.none, hc, h =>
    obtain rfl := h.1 rfl
    obtain rfl := hc rfl
    refine (toModel_nil w).mono ?_
    rintro e w' ⟨rfl, hB⟩
    exact ⟨Option.none, rfl, ⟨fun _ => rfl, fun h => absurd h (by omega)⟩, hB⟩
  | some x, _, h =>
    by_cases h0 : n = 0
    · subst h0
      refine (toModel_zero x c w).mono ?_
      rintro e w' ⟨rfl, hB⟩
      exact ⟨_, rfl, ⟨fun _ => rfl, fun h => absurd h (by omega)⟩, hB⟩
    · obtain ⟨b, off, hx, hr⟩ := h.2 (by omega)
      rw [hx]
      refine (toModel_pts b off n c T V w hr hn).mono ?_
      rintro e w' ⟨rfl, hR, hB, _⟩
      exact ⟨_, rfl, ⟨fun h => (by cases h), fun _ => ⟨_, 0, rfl, hR⟩⟩, hB⟩

end Go.Proofs.Qxb6601754a
