import Derived.Test.Qxb6601754aCopy
import Derived.ProofKit
import Derived.OpenShut
import Derived.ShutString
import Derived.ChangeOld
import Derived.Deep.SlicePairs
namespace Go.Proofs.Qxb6601754a
open Go.ChangeShapes Go.WideShapes Go.ChangeAt Go.RowKit

theorem own : ownKnob Try.prog.godebug = Option.none := by kernel_rfl
theorem laidOut : laidOutB Try.prog = true := by kernel_rfl
theorem Try.cells32 : Try.prog.cellsOf 32 = 2 := by kernel_rfl
theorem Try.cells2 : Try.prog.cellsOf 2 = 1 := by kernel_rfl
theorem Try.cells30 : Try.prog.cellsOf 30 = 1 := by kernel_rfl

theorem trod_f64 {H : Type} {enc : TypeId × Value → H} {P : Program} {w : World} {base : Nat} {spare : Nat → Bool} {held : Bool} {fuel : Nat} {t : TypeId} {v : Value} {x : DataW H × List MemPlace}
    (ht : P.underlying t = some (.float .f64)) (h : DataW.trod enc P w base spare held fuel t [v] = some x) : ∃ b, v = .float .f64 b ∧ b < 2 ^ 64 := by
  cases fuel with
  | zero => simp [DataW.trod] at h
  | succ n =>
    simp only [DataW.trod, ht] at h
    cases v <;> simp at h
    rename_i k b
    cases k <;> simp [Lit.wf] at h
    exact ⟨b, rfl, h.1⟩

theorem bounds_i64 {t : Int} (h : (Lit.int .i64 t).wf = true) : -9223372036854775808 ≤ t ∧ t ≤ 9223372036854775807 := by
  have h1 : (decide (-9223372036854775808 ≤ t) && decide (t ≤ 9223372036854775807)) = true := h
  simpa using h1

/-- The numbers and the floats fit their kinds. -/
def Fits (n : Nat) (T : Nat → Int) (V : Nat → Nat) : Prop := ∀ i, i < n → -9223372036854775808 ≤ T i ∧ T i ≤ 9223372036854775807 ∧ V i < 2 ^ 64

/-- A slice of points that came in. -/
theorem open_pts {H : Type} {enc : TypeId × Value → H} {W : World} {a : Option Addr} {n c : Nat} {d : DataW H} {p : List MemPlace}
    (h : DataW.Trod enc Try.prog W 0 (fun _ => true) true 22 (.slice a n c) d p) : ∃ T V, Pts W a n T V ∧ (a = Option.none → c = 0) ∧ Fits n T V := by
  obtain ⟨fuel, hf⟩ := h
  rcases Deep.open_slice_pairs Try.underlying22 Try.underlying32 Try.cells32 rfl rfl Try.cells2 Try.cells30 hf with ⟨hcs, _⟩ | ⟨x, l, c', m, k, V0, V1, D0, D1, P0, P1, hcs, _, hl, hm, hmm, _, hx⟩
  · simp [Value.cells] at hcs
    obtain ⟨rfl, rfl, rfl⟩ := hcs
    exact ⟨fun _ => 0, fun _ => 0, ⟨fun _ => rfl, fun h => absurd h (by omega)⟩, fun _ => rfl, fun i hi => absurd hi (by omega)⟩
  · simp [Value.cells] at hcs
    obtain ⟨rfl, rfl, rfl⟩ := hcs
    have hm' : m = c := by simpa using hmm
    have e : ∀ i, i < m → ∃ q : Int × Nat, V0 i = .int .i64 q.1 ∧ V1 i = .float .f64 q.2 ∧ (-9223372036854775808 ≤ q.1 ∧ q.1 ≤ 9223372036854775807) ∧ q.2 < 2 ^ 64 := by
      intro i hi
      obtain ⟨_, _, h0, h1⟩ := hx i hi
      obtain ⟨t, ht, _, hw⟩ := DataW.trod_int Try.underlying2 h0
      obtain ⟨v, hv, hlt⟩ := trod_f64 Try.underlying30 h1
      simp at ht
      refine ⟨(t, v), ht, hv, ?_, hlt⟩
      exact bounds_i64 hw
    obtain ⟨q, hq⟩ := Deep.choose_lt e
    refine ⟨fun i => (q i).1, fun i => (q i).2, ⟨fun h => (by cases h), fun h0 => ?_⟩, fun h => (by cases h), fun i hi => ⟨(hq i (by omega)).2.2.1.1, (hq i (by omega)).2.2.1.2, (hq i (by omega)).2.2.2⟩⟩
    obtain ⟨b, off, spot⟩ := x
    have hspot : spot = Option.none := by simpa [Addr.add] using World.cell?_spot (hx 0 (by omega)).1
    subst hspot
    refine ⟨b, off, rfl, fun i hi => ?_⟩
    have h1 := hx i (by omega)
    have h2 := hq i (by omega)
    rw [h2.1, h2.2.1, add_plain, add_plain] at h1
    exact ⟨h1.1, h1.2.1⟩

end Go.Proofs.Qxb6601754a
