/-
  Floats in the walk: the result of '+', '-', '*', '/' on float64 as a relation that forgets a NaN's bits; and what it is for a slice of points to read as two functions.
-/
import Derived.Test.Qxb6601754aRows
import Derived.WalkKit
import Derived.WalkSpells
import Derived.WalkLawsBesides
import Derived.Deep.QuietTactic
import Derived.BigQuiet
namespace Go.Proofs.Qxb6601754a
open Go.RowKit

/-- A float64 without the bits of a NaN: 'none' is every NaN. -/
def canon (x : Nat) : Option Nat := if (Ieee.double.read x).isNaN then Option.none else some x

/-- '+', '-', '*', '/' without the bits of a NaN. -/
def fop (op : BinOp) (x y : Option Nat) : Option Nat :=
  match x, y with
  | some x, some y => floatBits op .f64 x y
  | _, _ => Option.none

/-- 'r' is what 'x op y' may give. -/
def FRes (op : BinOp) (x y r : Nat) : Prop := canon r = fop op (canon x) (canon y) ∧ r < 2 ^ 64

theorem dSW : Ieee.double.signWeight = 9223372036854775808 := by decide
theorem dBin : Ieee.double.binade = 4503599627370496 := by decide
theorem dInf : Ieee.double.infRung = 9218868437227405312 := by decide
theorem dLP : Ieee.double.leastPlace = -1074 := by decide

theorem read_nan {x : Nat} (h : 9218868437227405312 < x % 9223372036854775808) : (Ieee.double.read x).isNaN = true := by
  unfold Ieee.Format.read
  simp only [dSW, dBin, dInf]
  rw [if_neg (by omega), if_neg (by omega), if_neg (by omega)]
  rfl

theorem read_notNan {x : Nat} (h : x % 9223372036854775808 ≤ 9218868437227405312) : (Ieee.double.read x).isNaN = false := by
  unfold Ieee.Format.read
  simp only [dSW, dBin, dInf]
  split
  · rfl
  · split
    · rfl
    · rw [if_pos (by omega)]; rfl

theorem canon_nan {x : Nat} (h : 9218868437227405312 < x % 9223372036854775808) : canon x = Option.none := by
  unfold canon; rw [if_pos (read_nan h)]
theorem canon_some {x : Nat} (h : x % 9223372036854775808 ≤ 9218868437227405312) : canon x = some x := by
  unfold canon; rw [read_notNan h]; rfl

theorem word_mod (neg : Bool) (rung : Nat) (h : rung < 9223372036854775808) : Ieee.double.word neg rung % 9223372036854775808 = rung := by
  unfold Ieee.Format.word
  rw [dSW]
  split <;> omega

theorem nearest_mod (neg : Bool) (mag : Nat) (place : Int) : Ieee.double.nearest neg mag place % 9223372036854775808 ≤ 9218868437227405312 := by
  unfold Ieee.Format.nearest
  dsimp only
  rw [dInf]
  split
  · rw [word_mod _ _ (by omega)]; omega
  · rw [word_mod _ _ (by omega)]; omega

theorem write_mod {d : Ieee.Datum} (h : d.isNaN = false) : Ieee.double.write d % 9223372036854775808 ≤ 9218868437227405312 := by
  cases d with
  | number neg mag place => exact nearest_mod _ _ _
  | infinity neg => unfold Ieee.Format.write; rw [dInf, word_mod _ _ (by omega)]; omega
  | nan neg fraction => cases h

theorem sum_notNan {a b d : Ieee.Datum} (h : a.sum b = some d) : d.isNaN = false := by
  cases a <;> cases b <;> simp [Ieee.Datum.sum] at h
  all_goals first | (obtain ⟨_, rfl⟩ := h; rfl) | (subst h; rfl)
theorem product_notNan {a b d : Ieee.Datum} (h : a.product b = some d) : d.isNaN = false := by
  cases a <;> cases b <;> simp [Ieee.Datum.product] at h
  all_goals first | (obtain ⟨_, rfl⟩ := h; rfl) | (subst h; rfl)
theorem quotient_notNan {n : Nat} {a b d : Ieee.Datum} (h : a.quotient n b = some d) : d.isNaN = false := by
  cases a <;> cases b <;> simp [Ieee.Datum.quotient] at h
  all_goals first | (subst h; rfl) | skip
  split at h
  · split at h
    · cases h
    · cases h; rfl
  · cases h; rfl

theorem floatBits_mod {op : BinOp} {x y r : Nat} (h : floatBits op .f64 x y = some r) : r % 9223372036854775808 ≤ 9218868437227405312 := by
  unfold floatBits at h
  have e : FloatKind.f64.format = Ieee.double := rfl
  rw [e] at h
  split at h
  · simp only [Ieee.Format.add, Option.map_eq_some_iff] at h; obtain ⟨d, hd, rfl⟩ := h; exact write_mod (sum_notNan hd)
  · simp only [Ieee.Format.sub, Option.map_eq_some_iff] at h; obtain ⟨d, hd, rfl⟩ := h; exact write_mod (sum_notNan hd)
  · simp only [Ieee.Format.mul, Option.map_eq_some_iff] at h; obtain ⟨d, hd, rfl⟩ := h; exact write_mod (product_notNan hd)
  · simp only [Ieee.Format.div, Option.map_eq_some_iff] at h; obtain ⟨d, hd, rfl⟩ := h; exact write_mod (quotient_notNan hd)
  · cases h

theorem floatBits_lt {op : BinOp} {x y r : Nat} (h : floatBits op .f64 x y = some r) : r < 2 ^ 64 := by
  have := floatBits_wf h
  simpa [Lit.wf] using this

theorem floatBits_nan_left {op : BinOp} {x y : Nat} (h : (Ieee.double.read x).isNaN = true) : floatBits op .f64 x y = Option.none := by
  unfold floatBits
  have e : FloatKind.f64.format = Ieee.double := rfl
  rw [e]
  simp only [Ieee.Format.add, Ieee.Format.sub, Ieee.Format.mul, Ieee.Format.div]
  cases hx : Ieee.double.read x <;> rw [hx] at h <;> simp [Ieee.Datum.isNaN] at h
  cases op <;> simp [Ieee.Datum.sum, Ieee.Datum.product, Ieee.Datum.quotient]

theorem floatBits_nan_right {op : BinOp} {x y : Nat} (h : (Ieee.double.read y).isNaN = true) : floatBits op .f64 x y = Option.none := by
  unfold floatBits
  have e : FloatKind.f64.format = Ieee.double := rfl
  rw [e]
  simp only [Ieee.Format.add, Ieee.Format.sub, Ieee.Format.mul, Ieee.Format.div]
  cases hy : Ieee.double.read y <;> rw [hy] at h <;> simp [Ieee.Datum.isNaN] at h
  cases op <;> cases hx : Ieee.double.read x <;> simp [Ieee.Datum.sum, Ieee.Datum.product, Ieee.Datum.quotient, Ieee.Datum.opposite]

theorem fop_canon (op : BinOp) (x y : Nat) : fop op (canon x) (canon y) = floatBits op .f64 x y := by
  unfold canon
  split
  · rename_i h; rw [floatBits_nan_left h]; rfl
  · split
    · rename_i h; rw [floatBits_nan_right h]; rfl
    · rfl

theorem fres_of_some {op : BinOp} {x y r : Nat} (h : floatBits op .f64 x y = some r) : FRes op x y r := by
  refine ⟨?_, floatBits_lt h⟩
  rw [fop_canon, h]
  exact canon_some (floatBits_mod h)

theorem cut_nan (x y t : Nat) : 9218868437227405312 < (Question.nanBits .f64 x y).cut t % 9223372036854775808 ∧ (Question.nanBits .f64 x y).cut t < 2 ^ 64 := by
  simp only [Question.cut]
  have e1 : (2 : Nat) ^ 63 = 9223372036854775808 := by decide
  have e2 : (2 : Nat) ^ 52 - 1 = 4503599627370495 := by decide
  have e3 : (2 : Nat) ^ 64 = 18446744073709551616 := by decide
  rw [e1, e2, e3]
  have h2 : t % 2 < 2 := Nat.mod_lt _ (by decide)
  have h3 : t / 2 % 4503599627370495 < 4503599627370495 := Nat.mod_lt _ (by decide)
  generalize t / 2 % 4503599627370495 = s at *
  generalize t % 2 = m at *
  omega

theorem fres_of_none {op : BinOp} {x y : Nat} (t : Nat) (h : floatBits op .f64 x y = Option.none) : FRes op x y ((Question.nanBits .f64 x y).cut t) := by
  refine ⟨?_, (cut_nan x y t).2⟩
  rw [fop_canon, h]
  exact canon_nan (cut_nan x y t).1

/-- Is it one of the four? -/
def arith4 : BinOp → Bool
  | .add | .sub | .mul | .quo => true
  | _ => false

theorem run_float {P : Program} (w : World) (op : BinOp) (hop : arith4 op = true) (t : TypeId) (x y : Nat) :
    ∃ r n, (binOp op t (.float .f64 x) (.float .f64 y)).run P w = .ok (.float .f64 r) (w.drewN n) ∧ FRes op x y r := by
  cases h : floatBits op .f64 x y with
  | some r => exact ⟨r, 0, run_float_arith w op t .f64 x y r h, fres_of_some h⟩
  | none =>
    refine ⟨(Question.nanBits .f64 x y).cut (w.tape w.drawn (.nanBits .f64 x y)), 1, ?_, fres_of_none _ h⟩
    unfold floatBits at h
    cases op <;> simp [arith4] at hop
    all_goals
      simp only at h
      simp [binOp, Op.floatArith, h, choose, Sem.run, Question.forced, World.drew_is_drewN]

/-- A float is stored as any value of one cell. -/
theorem run_store_float {P : Program} (w : World) (a : Addr) (m : Mode) (k : FloatKind) (x : Nat) : (store a (.float k x) m).run P w = stored P w a (.float k x) m := run_store P w a _ m rfl

/-- THE WALK's LAW: '+', '-', '*', '/' on float64: the result is one that may be; a NaN's bits are drawn. -/
theorem wpList_float {P : Program} {w : World} {ops : Array Oper} {rest : List Oper} {o : Oper} {a : Act} {Q : Exit → Act → World → Prop}
    (hg : o.guard = Option.none) (op : BinOp) (t t2 : TypeId) (x y : Operand) (hop : o.op = Op.binOp op t x y t2) (h4 : arith4 op = true)
    (u v : Nat) (hx : a.eval x = .float .f64 u) (hy : a.eval y = .float .f64 v)
    (hK : ∀ r n, FRes op u v r → wpList P ops Q rest (a.put o.dst (.float .f64 r)) (w.drewN n)) : wpList P ops Q (o :: rest) a w := by
  refine wpList_plain hg fun K hK' => ?_
  obtain ⟨r, n, hrun, hr⟩ := run_float (P := P) w op h4 t u v
  have hguard : ∀ w, (eqGuard op t x y (.float .f64 u) (.float .f64 v)).run P w = .ok () w := by
    intro w; cases op <;> simp [arith4] at h4 <;> rfl
  unfold Oper.wp
  simp [execOp, hop, hx, hy, hrun, hguard, Result.andThen]
  exact hK' _ _ (hK r n hr)

end Go.Proofs.Qxb6601754a
