/-
  The plain part of the merge: ranks, and what holds while two series are merged.
-/
import Derived.Test.Qxb6601754aBase
namespace Go.Proofs.Qxb6601754a

/-- In time order. -/
def Sorted (T : Nat → Int) (n : Nat) : Prop := ∀ i, i + 1 < n → T i ≤ T (i + 1)

theorem Sorted.le {T : Nat → Int} {n : Nat} (h : Sorted T n) (i d : Nat) (hj : i + d < n) : T i ≤ T (i + d) := by
  induction d with
  | zero => exact Int.le_refl _
  | succ d ih => exact Int.le_trans (ih (by omega)) (h (i + d) (by omega))
theorem Sorted.le' {T : Nat → Int} {n : Nat} (h : Sorted T n) {i j : Nat} (hij : i ≤ j) (hj : j < n) : T i ≤ T j := by
  obtain ⟨d, rfl⟩ := Nat.exists_eq_add_of_le hij
  exact h.le i d hj

/-- 'L' of the 'n' points lie before time 't', the first ones. -/
def IsRank (T : Nat → Int) (n : Nat) (t : Int) (L : Nat) : Prop := L ≤ n ∧ (∀ q, q < L → T q < t) ∧ ∀ q, L ≤ q → q < n → t ≤ T q

theorem rank_unique {T : Nat → Int} {n : Nat} {t : Int} {L M : Nat} (h : IsRank T n t L) (k : IsRank T n t M) : L = M := by
  apply Nat.le_antisymm
  · apply Nat.le_of_not_lt
    intro hlt
    have a := h.2.1 M hlt
    have b := k.2.2 M (Nat.le_refl _) (by have := h.1; omega)
    omega
  · apply Nat.le_of_not_lt
    intro hlt
    have a := k.2.1 L hlt
    have b := h.2.2 L (Nat.le_refl _) (by have := k.1; omega)
    omega

/-- A time is among the points just where the point at its rank bears it. -/
theorem rank_hit {T : Nat → Int} {n : Nat} {t : Int} {L : Nat} (hs : Sorted T n) (h : IsRank T n t L) {q : Nat} (hq : q < n) (e : T q = t) : L < n ∧ T L = t := by
  have h1 : L ≤ q := by
    apply Nat.le_of_not_lt
    intro hlt
    have := h.2.1 q hlt
    omega
  have h2 : L < n := by omega
  have a := h.2.2 L (Nat.le_refl _) h2
  have b := hs.le' h1 hq
  exact ⟨h2, by omega⟩

/-- A function with one value turned. -/
def upd {α : Type} (f : Nat → α) (k : Nat) (v : α) : Nat → α := fun x => if x = k then v else f x
theorem upd_same {α : Type} (f : Nat → α) (k : Nat) (v : α) : upd f k v k = v := by unfold upd; rw [if_pos rfl]
theorem upd_other {α : Type} (f : Nat → α) {k x : Nat} (v : α) (h : x ≠ k) : upd f k v x = f x := by unfold upd; rw [if_neg h]

/-- What holds when 'i' points of the first series and 'j' of the second have been merged. -/
structure MInv (Ta : Nat → Int) (Va : Nat → Nat) (n1 : Nat) (Tb : Nat → Int) (Vb : Nat → Nat) (n2 i j : Nat) (MT : Nat → Int) (MV : Nat → Nat) : Prop where
  hi : i ≤ n1
  hj : j ≤ n2
  lt1 : ∀ p, p < i → ∀ q, j ≤ q → q < n2 → Ta p < Tb q
  lt2 : ∀ q, q < j → ∀ p, i ≤ p → p < n1 → Tb q < Ta p
  ne : ∀ p, p < i → ∀ q, q < j → Ta p ≠ Tb q
  pa : ∀ p, p < i → ∀ L, IsRank Tb n2 (Ta p) L → p + L < i + j ∧ MT (p + L) = Ta p ∧ MV (p + L) = Va p
  pb : ∀ q, q < j → ∀ L, IsRank Ta n1 (Tb q) L → q + L < i + j ∧ MT (q + L) = Tb q ∧ MV (q + L) = Vb q

section
variable {Ta : Nat → Int} {Va : Nat → Nat} {n1 : Nat} {Tb : Nat → Int} {Vb : Nat → Nat} {n2 i j : Nat} {MT : Nat → Int} {MV : Nat → Nat}

theorem minv_start : MInv Ta Va n1 Tb Vb n2 0 0 MT MV :=
  ⟨by omega, by omega, fun p hp => absurd hp (by omega), fun q hq => absurd hq (by omega), fun p hp => absurd hp (by omega), fun p hp => absurd hp (by omega), fun q hq => absurd hq (by omega)⟩

/-- The two series change places. -/
theorem MInv.flip (h : MInv Ta Va n1 Tb Vb n2 i j MT MV) : MInv Tb Vb n2 Ta Va n1 j i MT MV :=
  ⟨h.hj, h.hi, h.lt2, h.lt1, fun p hp q hq e => h.ne q hq p hp e.symm, fun p hp L hL => by have := h.pb p hp L hL; rwa [Nat.add_comm j i],
    fun q hq L hL => by have := h.pa q hq L hL; rwa [Nat.add_comm j i]⟩

theorem MInv.stepA (h : MInv Ta Va n1 Tb Vb n2 i j MT MV) (hi : i < n1) (hj : j < n2) (hlt : Ta i < Tb j) (sb : Sorted Tb n2) :
    MInv Ta Va n1 Tb Vb n2 (i + 1) j (upd MT (i + j) (Ta i)) (upd MV (i + j) (Va i)) := by
  have hb : ∀ q, j ≤ q → q < n2 → Ta i < Tb q := fun q h1 h2 => by have := sb.le' h1 h2; omega
  refine ⟨by omega, h.hj, ?_, ?_, ?_, ?_, ?_⟩
  · intro p hp q h1 h2
    by_cases e : p = i
    · rw [e]; exact hb q h1 h2
    · exact h.lt1 p (by omega) q h1 h2
  · intro q hq p h1 h2
    exact h.lt2 q hq p (by omega) h2
  · intro p hp q hq
    by_cases e : p = i
    · have := h.lt2 q hq i (Nat.le_refl _) hi
      rw [e]; omega
    · exact h.ne p (by omega) q hq
  · intro p hp L hL
    by_cases e : p = i
    · subst e
      have hr : IsRank Tb n2 (Ta p) j := ⟨h.hj, fun q hq => h.lt2 q hq p (Nat.le_refl _) hi, fun q h1 h2 => Int.le_of_lt (hb q h1 h2)⟩
      have eL := rank_unique hL hr
      subst eL
      exact ⟨by omega, upd_same _ _ _, upd_same _ _ _⟩
    · obtain ⟨a, b, c⟩ := h.pa p (by omega) L hL
      exact ⟨by omega, by rw [upd_other _ _ (by omega)]; exact b, by rw [upd_other _ _ (by omega)]; exact c⟩
  · intro q hq L hL
    obtain ⟨a, b, c⟩ := h.pb q hq L hL
    exact ⟨by omega, by rw [upd_other _ _ (by omega)]; exact b, by rw [upd_other _ _ (by omega)]; exact c⟩

theorem MInv.stepB (h : MInv Ta Va n1 Tb Vb n2 i j MT MV) (hi : i < n1) (hj : j < n2) (hlt : Tb j < Ta i) (sa : Sorted Ta n1) :
    MInv Ta Va n1 Tb Vb n2 i (j + 1) (upd MT (i + j) (Tb j)) (upd MV (i + j) (Vb j)) := by
  have := (h.flip.stepA hj hi hlt sa).flip
  rwa [Nat.add_comm j i] at this

/-- What the whole answer is. -/
def Merged (Ta : Nat → Int) (Va : Nat → Nat) (n1 : Nat) (Tb : Nat → Int) (Vb : Nat → Nat) (n2 : Nat) (FT : Nat → Int) (FV : Nat → Nat) : Prop :=
  (∀ p, p < n1 → ∀ q, q < n2 → Ta p ≠ Tb q) ∧
  (∀ p, p < n1 → ∀ L, IsRank Tb n2 (Ta p) L → FT (p + L) = Ta p ∧ FV (p + L) = Va p) ∧
  (∀ q, q < n2 → ∀ L, IsRank Ta n1 (Tb q) L → FT (q + L) = Tb q ∧ FV (q + L) = Vb q)

/-- 'm' values more behind 'k'. -/
def app {α : Type} (f : Nat → α) (k : Nat) (g : Nat → α) : Nat → α := fun x => if x < k then f x else g (x - k)
theorem app_lt {α : Type} (f : Nat → α) {k : Nat} (g : Nat → α) {x : Nat} (h : x < k) : app f k g x = f x := by unfold app; rw [if_pos h]
theorem app_ge {α : Type} (f : Nat → α) {k : Nat} (g : Nat → α) (d : Nat) : app f k g (k + d) = g d := by unfold app; rw [if_neg (by omega), show k + d - k = d by omega]

theorem MInv.finish (h : MInv Ta Va n1 Tb Vb n2 i j MT MV) (he : i = n1 ∨ j = n2) :
    Merged Ta Va n1 Tb Vb n2 (app (app MT (i + j) fun d => Ta (i + d)) (i + j + (n1 - i)) fun d => Tb (j + d)) (app (app MV (i + j) fun d => Va (i + d)) (i + j + (n1 - i)) fun d => Vb (j + d)) := by
  have hi := h.hi
  have hj := h.hj
  refine ⟨?_, ?_, ?_⟩
  · intro p hp q hq
    rcases he with rfl | rfl
    · by_cases hqj : q < j
      · exact h.ne p hp q hqj
      · have := h.lt1 p hp q (by omega) hq; omega
    · by_cases hpi : p < i
      · exact h.ne p hpi q hq
      · have := h.lt2 q hq p (by omega) hp; omega
  · intro p hp L hL
    by_cases hpi : p < i
    · obtain ⟨a, b, c⟩ := h.pa p hpi L hL
      constructor
      · rw [app_lt _ _ (show p + L < i + j + (n1 - i) by omega), app_lt _ _ a]; exact b
      · rw [app_lt _ _ (show p + L < i + j + (n1 - i) by omega), app_lt _ _ a]; exact c
    · have hjn : j = n2 := by omega
      have hr : IsRank Tb n2 (Ta p) n2 := ⟨Nat.le_refl _, fun q hq => h.lt2 q (by omega) p (by omega) hp, fun q h1 h2 => absurd h2 (by omega)⟩
      have eL := rank_unique hL hr
      rw [eL]
      constructor
      · rw [app_lt _ _ (show p + n2 < i + j + (n1 - i) by omega), show p + n2 = i + j + (p - i) by omega, app_ge, show i + (p - i) = p by omega]
      · rw [app_lt _ _ (show p + n2 < i + j + (n1 - i) by omega), show p + n2 = i + j + (p - i) by omega, app_ge, show i + (p - i) = p by omega]
  · intro q hq L hL
    by_cases hqj : q < j
    · obtain ⟨a, b, c⟩ := h.pb q hqj L hL
      constructor
      · rw [app_lt _ _ (show q + L < i + j + (n1 - i) by omega), app_lt _ _ a]; exact b
      · rw [app_lt _ _ (show q + L < i + j + (n1 - i) by omega), app_lt _ _ a]; exact c
    · have hin : i = n1 := by omega
      have hr : IsRank Ta n1 (Tb q) n1 := ⟨Nat.le_refl _, fun p hp => h.lt1 p (by omega) q (by omega) hq, fun p h1 h2 => absurd h2 (by omega)⟩
      have eL := rank_unique hL hr
      rw [eL]
      constructor
      · rw [show q + n1 = i + j + (n1 - i) + (q - j) by omega, app_ge, show j + (q - j) = q by omega]
      · rw [show q + n1 = i + j + (n1 - i) + (q - j) by omega, app_ge, show j + (q - j) = q by omega]
end
end Go.Proofs.Qxb6601754a
