import Derived.Test.Qxb6601754aRank
import Derived.Test.Qxb6601754aCopy
import Derived.Deep.RegionLaw
import Derived.Deep.DeepCutAuto
namespace Go.Proofs.Qxb6601754a
open Go.RowKit
attribute [local go_sem] run_store_float

/-- 'make([]model.Point, 0, n)'. -/
theorem wpList_make_cap (w : World) {ops : Array Oper} {rest : List Oper} {o : Oper} {a : Act} {Q : Exit → Act → World → Prop}
    (hg : o.guard = Option.none) (l c : Operand) (hop : o.op = Op.makeSlice 25 l c) (n : Nat) (C : Int) (hC : C = n)
    (hl : a.eval l = .int .i64 0) (hc : a.eval c = .int .i64 C) (hn : n ≤ 1048576)
    (hK : ∀ w', Room w' w.heap.size (n * 2) → Below w.heap.size w w' → w.heap.size < w'.heap.size → wpList Try.prog ops Q rest (a.put o.dst (.slice (some ⟨w.heap.size, 0, Option.none⟩) 0 n)) w') :
    wpList Try.prog ops Q (o :: rest) a w := by
  refine wpList_plain hg fun K hK' => ?_
  obtain ⟨i0, hi, hz0, hz1, hz2⟩ := info_parts Try.info34
  subst hC
  have hrun := run_make (P := Try.prog) w 25 34 i0 (.agg #[.int .i64 0, .float .f64 0]) Try.underlying25 hi hz0 .i64 .i64 0 (n : Int) (by omega) (by omega) (by rw [hz2]; omega) (by omega)
  rw [Int.toNat_natCast, hz1] at hrun
  unfold Oper.wp
  simp only [execOp, hop, hl, hc]
  generalize hC : madeCells (Value.agg #[.int .i64 0, .float .f64 0]).cells (n * 2) = C at hrun
  have hsz : C.size = n * 2 := by rw [← hC]; exact size_madeCells _ _
  simp [hrun, Result.andThen]
  refine hK' _ _ (hK _ ⟨fun j hj => ?_, fun j => ?_⟩ ((Below.refl _ _).alloc (Nat.le_refl _) _) (by simp))
  · rw [World.cell?_alloc_new]
    exact ⟨C[j]'(by omega), by simp [hsz, hj]⟩
  · exact World.frozen?_alloc_new _ _ _ _

/-- The cells of points. -/
def ptCell (T : Nat → Int) (V : Nat → Nat) (x : Nat) : Value := if x % 2 = 0 then .int .i64 (T (x / 2)) else .float .f64 (V (x / 2))
def ptCells (T : Nat → Int) (V : Nat → Nat) (m : Nat) : List Value := (List.range (m * 2)).map (ptCell T V)

theorem ptCells_len (T : Nat → Int) (V : Nat → Nat) (m : Nat) : (ptCells T V m).length = m * 2 := by simp [ptCells]
theorem ptCells_at {T : Nat → Int} {V : Nat → Nat} {m j : Nat} (h : j < m * 2) : (ptCells T V m)[j]? = some (ptCell T V j) := by simp [ptCells, h]
theorem ptCells_one (T : Nat → Int) (V : Nat → Nat) (m : Nat) : ∀ u ∈ ptCells T V m, u.oneCell' = true := by
  intro u hu
  simp only [ptCells, List.mem_map] at hu
  obtain ⟨x, _, rfl⟩ := hu
  unfold ptCell
  split <;> rfl

theorem below_setCells {B b : Nat} {a : World} (hb : B ≤ b) : ∀ (vs : List Value) (o : Nat) (w : World), Below B a w → Below B a (w.setCells b o vs)
  | [], _, _, h => h
  | v :: r, o, w, h => below_setCells hb r (o + 1) _ (h.setCell (by exact hb) v)
theorem size_setCells (b : Nat) : ∀ (vs : List Value) (o : Nat) (w : World), (w.setCells b o vs).heap.size = w.heap.size
  | [], _, _ => rfl
  | v :: r, o, w => by
    show ((w.setCell ⟨b, o, Option.none⟩ v).setCells b (o + 1) r).heap.size = _
    rw [size_setCells b r (o + 1), World.size_setCell]

/-- Points written behind those that stand. -/
theorem pts_app {w : World} {B N k m : Nat} {MT T : Nat → Int} {MV V : Nat → Nat} (hR : Room w B (N * 2)) (hD : Reads w B 0 k MT MV) (hk : k + m ≤ N) :
    Room (w.setCells B (0 + k * 2) (ptCells T V m)) B (N * 2) ∧ Reads (w.setCells B (0 + k * 2) (ptCells T V m)) B 0 (k + m) (app MT k T) (app MV k V) := by
  have hl := ptCells_len T V m
  have hin : ∀ j, j < m * 2 → (w.setCells B (0 + k * 2) (ptCells T V m)).cell? ⟨B, k * 2 + j, Option.none⟩ = some (ptCell T V j) := by
    intro j hj
    have := World.cell?_setCells_in B (ptCells T V m) (0 + k * 2) w (fun x hx => by
      obtain ⟨v, hv⟩ := hR.1 (0 + k * 2 + x) (by omega)
      rw [hv]; rfl) j (by omega)
    rw [Nat.zero_add] at this ⊢
    rw [this]
    have e := ptCells_at (T := T) (V := V) (m := m) hj
    rw [List.getElem?_eq_getElem (by omega)] at e
    exact e
  have hout : ∀ j, j < k * 2 ∨ (k + m) * 2 ≤ j → (w.setCells B (0 + k * 2) (ptCells T V m)).cell? ⟨B, j, Option.none⟩ = w.cell? ⟨B, j, Option.none⟩ := by
    intro j hj
    apply World.cell?_setCells_out
    intro _ _
    rw [hl]
    show j < 0 + k * 2 ∨ 0 + k * 2 + m * 2 ≤ j
    omega
  refine ⟨⟨fun j hj => ?_, fun j => ?_⟩, fun i hi => ?_⟩
  · by_cases h1 : k * 2 ≤ j ∧ j < (k + m) * 2
    · have := hin (j - k * 2) (by omega)
      rw [show k * 2 + (j - k * 2) = j by omega] at this
      exact ⟨_, this⟩
    · rw [hout j (by omega)]; exact hR.1 j hj
  · rw [World.frozen?_setCells]; exact hR.2 j
  · by_cases h1 : i < k
    · rw [app_lt _ _ h1, app_lt _ _ h1, hout _ (by omega), hout _ (by omega)]
      exact hD i h1
    · obtain ⟨d, rfl⟩ : ∃ d, i = k + d := ⟨i - k, by omega⟩
      rw [app_ge, app_ge]
      have a := hin (d * 2) (by omega)
      have b := hin (d * 2 + 1) (by omega)
      rw [show 0 + (k + d) * 2 = k * 2 + d * 2 by omega, show k * 2 + d * 2 + 1 = k * 2 + (d * 2 + 1) by omega]
      unfold ptCell at a b
      rw [if_pos (by omega), show d * 2 / 2 = d by omega] at a
      rw [if_neg (by omega), show (d * 2 + 1) / 2 = d by omega] at b
      exact ⟨a, b⟩

/-- One point written behind those that stand. -/
theorem pts_one {w : World} {B N k : Nat} {MT : Nat → Int} {MV : Nat → Nat} (t : Int) (v : Nat) (hR : Room w B (N * 2)) (hD : Reads w B 0 k MT MV) (hk : k + 1 ≤ N) :
    Room (w.setCells B (0 + k * 2) [.int .i64 t, .float .f64 v]) B (N * 2) ∧ Reads (w.setCells B (0 + k * 2) [.int .i64 t, .float .f64 v]) B 0 (k + 1) (upd MT k t) (upd MV k v) := by
  have h := pts_app (T := fun _ => t) (V := fun _ => v) (m := 1) hR hD hk
  have e : ptCells (fun _ => t) (fun _ => v) 1 = [.int .i64 t, .float .f64 v] := rfl
  rw [e] at h
  refine ⟨h.1, fun i hi => ?_⟩
  have hh := h.2 i hi
  by_cases h1 : i = k
  · subst h1
    rw [upd_same, upd_same]
    have e1 : app MT i (fun _ => t) i = t := app_ge MT (fun _ => t) 0
    have e2 : app MV i (fun _ => v) i = v := app_ge MV (fun _ => v) 0
    rw [e1, e2] at hh
    exact hh
  · rw [upd_other _ _ h1, upd_other _ _ h1]
    rw [app_lt _ _ (by omega), app_lt _ _ (by omega)] at hh
    exact hh

theorem addr_plain (b off j : Nat) : (⟨b, off, Option.none⟩ : Addr).add j = ⟨b, off + j, Option.none⟩ := by
  unfold Addr.add; by_cases h : j = 0 <;> simp [h]

/-- 'append' within the room, whatever is appended (nil too). -/
theorem wpList_app (w : World) {ops : Array Oper} {rest : List Oper} {o : Oper} {a : Act} {Q : Exit → Act → World → Prop}
    (hg : o.guard = Option.none) (s x : Operand) (hop : o.op = Op.call { callee := Callee.builtin Builtin.append, args := #[s, x], argTypes := #[25, 25] })
    (b n cap : Nat) (hs : a.eval s = .slice (some ⟨b, 0, Option.none⟩) n cap) (ad : Option Addr) (m c : Nat) (hx : a.eval x = .slice ad m c) (T : Nat → Int) (V : Nat → Nat)
    (hP : Pts w ad m T V) (hroom : n + m ≤ cap) (hR : Room w b (cap * 2))
    (hK : wpList Try.prog ops Q rest (a.put o.dst (.slice (some ⟨b, 0, Option.none⟩) (n + m) cap)) (w.setCells b (n * 2) (ptCells T V m))) : wpList Try.prog ops Q (o :: rest) a w := by
  refine wpList_plain hg fun K hK' => ?_
  obtain ⟨i0, hi, hz0, hz1, hz2⟩ := info_parts Try.info34
  have hrun : (Builtin.append_ #[25, 25] o.type #[.slice (some ⟨b, 0, Option.none⟩) n cap, .slice ad m c]).run Try.prog w = .ok (.slice (some ⟨b, 0, Option.none⟩) (n + m) cap) (w.setCells b (0 + n * 2) (ptCells T V m)) := by
    match ad, hP with
    | Option.none, hP =>
      have hm : m = 0 := hP.1 rfl
      subst hm
      have e : ptCells T V 0 = [] := rfl
      rw [e]
      have hr : n ≤ cap := by omega
      simp [Builtin.append_, run_underlying Try.underlying25, sizeOf, typeInfo, hi, Builtin.lenOf, hr, Builtin.firstCells, storeCells, World.setCells]
    | some x, hP =>
      have h := run_append_room_cells (P := Try.prog) w 25 o.type 34 i0 Try.underlying25 hi b 0 n cap x m c (ptCells T V m) (by rw [hz1]; exact ptCells_len T V m) (fun j u hj => ?_) (ptCells_one T V m) hroom (fun j hj => ?_) (fun j hj => hR.2 _)
      · rw [hz1] at h; exact h
      · have hlt : j < m * 2 := by
          rw [← ptCells_len T V m]
          exact (List.getElem?_eq_some_iff.1 hj).1
        rw [ptCells_at hlt] at hj
        cases hj
        obtain ⟨b', off, hx', hr⟩ := hP.2 (by omega)
        cases hx'
        rw [addr_plain]
        unfold ptCell
        by_cases h0 : j % 2 = 0
        · rw [if_pos h0]
          have := (hr (j / 2) (by omega)).1
          rwa [show off + j / 2 * 2 = off + j by omega] at this
        · rw [if_neg h0]
          have := (hr (j / 2) (by omega)).2
          rwa [show off + j / 2 * 2 + 1 = off + j by omega] at this
      · rw [ptCells_len] at hj
        rw [hz1]
        obtain ⟨v, hv⟩ := hR.1 (0 + n * 2 + j) (by omega)
        rw [hv]; rfl
  unfold Oper.wp
  simp only [Nat.zero_add] at hrun
  simp [execOp, hop, resolve, invoke, builtin, hs, hx, hrun, Result.andThen]
  exact hK' _ _ hK
end Go.Proofs.Qxb6601754a
