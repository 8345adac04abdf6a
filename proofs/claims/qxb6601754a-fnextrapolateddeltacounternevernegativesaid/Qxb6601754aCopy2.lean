import Derived.Test.Qxb6601754aCopy
namespace Go.Proofs.Qxb6601754a
open Go.RowKit
attribute [local go_sem] run_store_float

theorem run_neg_float {P : Program} (w : World) (k : FloatKind) (b : Nat) : (Op.unary .neg (.float k b)).run P w = .ok (.float k (Op.negFloat k b)) w := rfl
attribute [local go_sem] run_neg_float

set_option maxHeartbeats 1000000 in
theorem shifted_pts (b off n c : Nat) (k0 : Int) (T : Nat → Int) (V : Nat → Nat) (w : World) (hr : Reads w b off n T V) (hn : n ≤ 1048576) :
    Calls Try.prog 21 #[.slice (some ⟨b, off, Option.none⟩) n c, .int .i64 k0] w fun e w' => e = .returned (.slice (some ⟨w.heap.size, 0, Option.none⟩) n n) ∧ Reads w' w.heap.size 0 n (fun i => wrap64 (T i + k0)) V ∧ Below w.heap.size w w' ∧ w.heap.size < w'.heap.size := by
  have q22 : ∀ (w : World) (a : Option Addr) (n c n' c' : Nat), (binOp .eql 22 (.slice a n c) (.slice Option.none n' c')).run Try.prog w = .ok (.bool a.isNone) w := fun w a n c n' c' => Lib.run_eql_slice_nil w _ _ a n c n' c' Try.underlying22
  go_enter Try.func21, Try.ntmps21
  go_wp2_with (at_make; refine wpList_make_pts _ rfl _ _ rfl n rfl rfl hn ?_; intro w1 hR hB hS)
  go_loopw [6] (fun i wr => ∃ k : Nat, k ≤ n ∧ i = .int .i64 k ∧ Room wr w.heap.size (n * 2) ∧ Below w.heap.size w wr ∧ w.heap.size < wr.heap.size ∧ Reads wr w.heap.size 0 k (fun i => wrap64 (T i + k0)) V) (fun i _ => n - (intOf i).toNat)
  case atStart => exact ⟨0, Nat.zero_le _, rfl, hR, hB, hS, fun i hi => absurd hi (by omega)⟩
  case round =>
    obtain ⟨k, hk, rfl, hRr, hBr, hSr, hD⟩ := hrel
    by_cases hlt : k < n
    · have hbl := at_pt hr hlt
      have c0 : wr.cell? ⟨b, off + k * 2, Option.none⟩ = some (.int .i64 (T k)) := (hBr.cell (by exact hbl)).trans (hr k hlt).1
      have c1 : wr.cell? ⟨b, off + k * 2 + 1, Option.none⟩ = some (.float .f64 (V k)) := (hBr.cell (by exact hbl)).trans (hr k hlt).2
      obtain ⟨u0, g0⟩ := hRr.1 (k * 2) (by omega)
      obtain ⟨u1, g1⟩ := hRr.1 (k * 2 + 1) (by omega)
      have f0 := hRr.2 (k * 2)
      have f1 := hRr.2 (k * 2 + 1)
      have g2 : (wr.setCell ⟨w.heap.size, k * 2, Option.none⟩ (.int .i64 (wrap64 (T k + k0)))).cell? ⟨w.heap.size, k * 2 + 1, Option.none⟩ = some u1 := by rw [World.cell?_setCell_other _ _ _ _ (by simp)]; exact g1
      go_wp2
      go_region
      go_wp2
      have R := pts_step hlt hRr hD
      go_roundw
      case rel => exact ⟨k + 1, by omega, by go_num, R.1, ((hBr.setCell (by exact Nat.le_refl _) _).setCell (by exact Nat.le_refl _) _).drew, by simpa using hSr, R.2⟩
      case measure => simp [intOf]; omega
    · go_wp2
      go_ret
      obtain rfl : k = n := by omega
      exact ⟨rfl, hD, hBr, hSr⟩

set_option maxHeartbeats 1000000 in
theorem negated_pts (b off n c : Nat) (T : Nat → Int) (V : Nat → Nat) (w : World) (hr : Reads w b off n T V) (hn : n ≤ 1048576) :
    Calls Try.prog 23 #[.slice (some ⟨b, off, Option.none⟩) n c] w fun e w' => e = .returned (.slice (some ⟨w.heap.size, 0, Option.none⟩) n n) ∧ Reads w' w.heap.size 0 n T (fun i => Op.negFloat .f64 (V i)) ∧ Below w.heap.size w w' ∧ w.heap.size < w'.heap.size := by
  have q22 : ∀ (w : World) (a : Option Addr) (n c n' c' : Nat), (binOp .eql 22 (.slice a n c) (.slice Option.none n' c')).run Try.prog w = .ok (.bool a.isNone) w := fun w a n c n' c' => Lib.run_eql_slice_nil w _ _ a n c n' c' Try.underlying22
  go_enter Try.func23, Try.ntmps23
  go_wp2_with (at_make; refine wpList_make_pts _ rfl _ _ rfl n rfl rfl hn ?_; intro w1 hR hB hS)
  go_loopw [4] (fun i wr => ∃ k : Nat, k ≤ n ∧ i = .int .i64 k ∧ Room wr w.heap.size (n * 2) ∧ Below w.heap.size w wr ∧ w.heap.size < wr.heap.size ∧ Reads wr w.heap.size 0 k T (fun i => Op.negFloat .f64 (V i))) (fun i _ => n - (intOf i).toNat)
  case atStart => exact ⟨0, Nat.zero_le _, rfl, hR, hB, hS, fun i hi => absurd hi (by omega)⟩
  case round =>
    obtain ⟨k, hk, rfl, hRr, hBr, hSr, hD⟩ := hrel
    by_cases hlt : k < n
    · have hbl := at_pt hr hlt
      have c0 : wr.cell? ⟨b, off + k * 2, Option.none⟩ = some (.int .i64 (T k)) := (hBr.cell (by exact hbl)).trans (hr k hlt).1
      have c1 : wr.cell? ⟨b, off + k * 2 + 1, Option.none⟩ = some (.float .f64 (V k)) := (hBr.cell (by exact hbl)).trans (hr k hlt).2
      obtain ⟨u0, g0⟩ := hRr.1 (k * 2) (by omega)
      obtain ⟨u1, g1⟩ := hRr.1 (k * 2 + 1) (by omega)
      have f0 := hRr.2 (k * 2)
      have f1 := hRr.2 (k * 2 + 1)
      have g2 : (wr.setCell ⟨w.heap.size, k * 2, Option.none⟩ (.int .i64 (T k))).cell? ⟨w.heap.size, k * 2 + 1, Option.none⟩ = some u1 := by rw [World.cell?_setCell_other _ _ _ _ (by simp)]; exact g1
      go_wp2
      go_region
      go_wp2
      have R := pts_step hlt hRr hD
      go_roundw
      case rel => exact ⟨k + 1, by omega, by go_num, R.1, ((hBr.setCell (by exact Nat.le_refl _) _).setCell (by exact Nat.le_refl _) _).drew, by simpa using hSr, R.2⟩
      case measure => simp [intOf]; omega
    · go_wp2
      go_ret
      obtain rfl : k = n := by omega
      exact ⟨rfl, hD, hBr, hSr⟩
end Go.Proofs.Qxb6601754a
