import Derived.Test.Qxb6601754aFrame
namespace Go.Proofs.Qxb6601754a
open Go.ChangeShapes Go.WideShapes Go.ChangeAt Go.RowKit

/-- The length of a slice of points that came in is within its capacity. -/
theorem open_cap {H : Type} {enc : TypeId × Value → H} {W : World} {a : Option Addr} {n c : Nat} {d : DataW H} {p : List MemPlace}
    (h : DataW.Trod enc Try.prog W 0 (fun _ => true) true 22 (.slice a n c) d p) : n ≤ c := by
  obtain ⟨fuel, hf⟩ := h
  rcases Deep.open_slice_pairs Try.underlying22 Try.underlying32 Try.cells32 rfl rfl Try.cells2 Try.cells30 hf with ⟨hcs, _⟩ | ⟨x, l, c', m, k, V0, V1, D0, D1, P0, P1, hcs, _, hl, hm, hmm, _, hx⟩
  · simp [Value.cells] at hcs
    omega
  · simp [Value.cells] at hcs
    omega
end Go.Proofs.Qxb6601754a
