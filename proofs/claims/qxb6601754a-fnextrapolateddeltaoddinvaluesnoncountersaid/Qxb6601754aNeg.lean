/-
  Plain facts on float64: what negation does.
-/
import Derived.Test.Qxb6601754aSign
import Derived.Test.Qxb6601754aSame
namespace Go.Proofs.Qxb6601754a

theorem negFloat_eq (x : Nat) : Op.negFloat .f64 x = x ^^^ 9223372036854775808 := rfl

theorem p63 : (2 : Nat) ^ 63 = 9223372036854775808 := by decide

theorem neg_mod (x : Nat) : (x ^^^ 9223372036854775808) % 9223372036854775808 = x % 9223372036854775808 := by
  rw [← p63, Nat.xor_mod_two_pow, Nat.mod_self, Nat.xor_zero]

theorem neg_div {x : Nat} (h : x < 18446744073709551616) : ((x ^^^ 9223372036854775808) / 9223372036854775808 % 2 == 1) = !(x / 9223372036854775808 % 2 == 1) := by
  have e : (x ^^^ 9223372036854775808) / 9223372036854775808 = x / 9223372036854775808 ^^^ 1 := by
    rw [← p63, Nat.xor_div_two_pow, Nat.div_self (Nat.two_pow_pos _)]
  rw [e]
  have hq : x / 9223372036854775808 < 2 := by omega
  generalize x / 9223372036854775808 = q at hq
  match q, hq with
  | 0, _ => rfl
  | 1, _ => rfl

/-- What a negated float stands for. -/
theorem read_neg {x : Nat} (h : x < 18446744073709551616) : Ieee.double.read (x ^^^ 9223372036854775808) = (Ieee.double.read x).opposite := by
  unfold Ieee.Format.read
  simp only [dSW, dBin, dInf, neg_mod, neg_div h]
  by_cases h1 : x % 9223372036854775808 < 4503599627370496
  · rw [if_pos h1, if_pos h1]; rfl
  · rw [if_neg h1, if_neg h1]
    by_cases h2 : x % 9223372036854775808 < 9218868437227405312
    · rw [if_pos h2, if_pos h2]; rfl
    · rw [if_neg h2, if_neg h2]
      by_cases h3 : x % 9223372036854775808 = 9218868437227405312
      · rw [if_pos h3, if_pos h3]; rfl
      · rw [if_neg h3, if_neg h3]; rfl

/-- Opposite numbers, the zeros alike; no NaN. -/
def OppD (d e : Ieee.Datum) : Prop := d.isNaN = false ∧ (e = d.opposite ∨ ∃ s i t j, d = .number s 0 i ∧ e = .number t 0 j)

/-- Both NaN, or opposite. -/
def Opp (p q : Option Nat) : Prop := (p = Option.none ∧ q = Option.none) ∨ ∃ a b, p = some a ∧ q = some b ∧ OppD (Ieee.double.read a) (Ieee.double.read b)

/-- The same of data. -/
def OppO (p q : Option Ieee.Datum) : Prop := (p = Option.none ∧ q = Option.none) ∨ ∃ a b, p = some a ∧ q = some b ∧ OppD a b

theorem withSign_opp (s : Bool) (d : Ieee.Datum) : withSign (!s) d = (withSign s d).opposite := by cases d <;> rfl

theorem isNaN_opp (d : Ieee.Datum) : d.opposite.isNaN = d.isNaN := by cases d <;> rfl

theorem write_opp {d e : Ieee.Datum} (h : OppD d e) : OppD (Ieee.double.read (Ieee.double.write d)) (Ieee.double.read (Ieee.double.write e)) := by
  obtain ⟨hn, h⟩ := h
  refine ⟨read_notNan (write_mod hn), ?_⟩
  rcases h with rfl | ⟨s, i, t, j, rfl, rfl⟩
  · left
    cases d with
    | nan s f => cases hn
    | infinity s =>
      show Ieee.double.read (Ieee.double.write (.infinity (!s))) = _
      rw [write_inf, write_inf, read_word _ _ (by omega), read_word _ _ (by omega), withSign_opp]
    | number s m p =>
      show Ieee.double.read (Ieee.double.write (.number (!s) m p)) = _
      have hle := rungOf_le m p
      rw [write_number, write_number, read_word _ _ (by omega), read_word _ _ (by omega), withSign_opp]
  · right
    refine ⟨s, -1074, t, -1074, ?_, ?_⟩
    · rw [write_number, rungOf_zero, read_word _ _ (by omega), read_small (by omega)]; rfl
    · rw [write_number, rungOf_zero, read_word _ _ (by omega), read_small (by omega)]; rfl

theorem map_opp {p q : Option Ieee.Datum} (h : OppO p q) : Opp (p.map Ieee.double.write) (q.map Ieee.double.write) := by
  rcases h with ⟨rfl, rfl⟩ | ⟨a, b, rfl, rfl, h⟩
  · exact .inl ⟨rfl, rfl⟩
  · exact .inr ⟨_, _, rfl, rfl, write_opp h⟩

theorem signed_opp' (s : Bool) (m k : Nat) : Ieee.signed (!s) m k = - Ieee.signed s m k := by
  unfold Ieee.signed; cases s <;> simp

theorem sum_opp (a b : Ieee.Datum) : OppO (a.sum b) (a.opposite.sum b.opposite) := by
  cases a with
  | nan s f => left; constructor <;> cases b <;> rfl
  | infinity s =>
    cases b with
    | nan t f => left; exact ⟨rfl, rfl⟩
    | infinity t =>
      cases s <;> cases t
      · right; exact ⟨_, _, rfl, rfl, rfl, .inl rfl⟩
      · left; exact ⟨rfl, rfl⟩
      · left; exact ⟨rfl, rfl⟩
      · right; exact ⟨_, _, rfl, rfl, rfl, .inl rfl⟩
    | number t n j => right; exact ⟨_, _, rfl, rfl, rfl, .inl rfl⟩
  | number s m i =>
    cases b with
    | nan t f => left; exact ⟨rfl, rfl⟩
    | infinity t => right; exact ⟨_, _, rfl, rfl, rfl, .inl rfl⟩
    | number t n j =>
      right
      simp only [Ieee.Datum.opposite, Ieee.Datum.sum, signed_opp']
      generalize Ieee.signed s m (i - min i j).toNat = u
      generalize Ieee.signed t n (j - min i j).toNat = v
      refine ⟨_, _, rfl, rfl, rfl, ?_⟩
      by_cases hz : u + v = 0
      · right
        rw [if_pos hz, if_pos (by omega), hz, show -u + -v = 0 by omega]
        exact ⟨_, _, _, _, rfl, rfl⟩
      · left
        rw [if_neg hz, if_neg (by omega)]
        simp only [Ieee.Datum.opposite]
        have e1 : decide (-u + -v < 0) = !decide (u + v < 0) := by
          by_cases h : u + v < 0
          · rw [decide_eq_true h, decide_eq_false (by omega)]; rfl
          · rw [decide_eq_false h, decide_eq_true (by omega)]; rfl
        have e2 : (-u + -v).natAbs = (u + v).natAbs := by omega
        rw [e1, e2]

theorem product_opp {d e : Ieee.Datum} (h : OppD d e) (f : Ieee.Datum) : OppO (d.product f) (e.product f) := by
  obtain ⟨hn, h⟩ := h
  rcases h with rfl | ⟨s, i, t, j, rfl, rfl⟩
  · cases d with
    | nan s g => cases hn
    | infinity s =>
      cases f with
      | nan t g => left; exact ⟨rfl, rfl⟩
      | infinity t => right; refine ⟨_, _, rfl, rfl, rfl, .inl ?_⟩; cases s <;> cases t <;> rfl
      | number t n j =>
        simp only [Ieee.Datum.opposite, Ieee.Datum.product]
        by_cases hz : n = 0
        · left; rw [if_pos hz, if_pos hz]; exact ⟨rfl, rfl⟩
        · right; rw [if_neg hz, if_neg hz]; refine ⟨_, _, rfl, rfl, rfl, .inl ?_⟩; cases s <;> cases t <;> rfl
    | number s m i =>
      cases f with
      | nan t g => left; exact ⟨rfl, rfl⟩
      | infinity t =>
        simp only [Ieee.Datum.opposite, Ieee.Datum.product]
        by_cases hz : m = 0
        · left; rw [if_pos hz, if_pos hz]; exact ⟨rfl, rfl⟩
        · right; rw [if_neg hz, if_neg hz]; refine ⟨_, _, rfl, rfl, rfl, .inl ?_⟩; cases s <;> cases t <;> rfl
      | number t n j => right; refine ⟨_, _, rfl, rfl, rfl, .inl ?_⟩; cases s <;> cases t <;> rfl
  · cases f with
    | nan u g => left; exact ⟨rfl, rfl⟩
    | infinity u => left; exact ⟨rfl, rfl⟩
    | number u n k =>
      right
      simp only [Ieee.Datum.product, Nat.zero_mul]
      exact ⟨_, _, rfl, rfl, rfl, .inr ⟨_, _, _, _, rfl, rfl⟩⟩

/-- THE PLAIN LAW, its first half: a difference of negated floats. -/
theorem sub_opp {x y : Nat} (hx : x < 18446744073709551616) (hy : y < 18446744073709551616) :
    Opp (floatBits .sub .f64 x y) (floatBits .sub .f64 (Op.negFloat .f64 x) (Op.negFloat .f64 y)) := by
  have e : ∀ u v, floatBits .sub .f64 u v = ((Ieee.double.read u).sum (Ieee.double.read v).opposite).map Ieee.double.write := fun _ _ => rfl
  rw [e, e, negFloat_eq, negFloat_eq, read_neg hx, read_neg hy]
  exact map_opp (sum_opp _ _)

/-- .. its second half: the product with one factor. -/
theorem mul_opp {p q : Option Nat} (h : Opp p q) (f : Option Nat) : Opp (fop .mul p f) (fop .mul q f) := by
  rcases h with ⟨rfl, rfl⟩ | ⟨a, b, rfl, rfl, h⟩
  · cases f <;> exact .inl ⟨rfl, rfl⟩
  · cases f with
    | none => exact .inl ⟨rfl, rfl⟩
    | some f =>
      have e : ∀ u v, fop .mul (some u) (some v) = ((Ieee.double.read u).product (Ieee.double.read v)).map Ieee.double.write := fun _ _ => rfl
      rw [e, e]
      exact map_opp (product_opp h _)

theorem signed_zero (s : Bool) (k : Nat) : Ieee.signed s 0 k = 0 := by
  unfold Ieee.signed; rw [shl_eq, Nat.zero_mul]; cases s <;> rfl

theorem fop_lt {op : BinOp} {p q : Option Nat} {a : Nat} (h : fop op p q = some a) : a < 18446744073709551616 := by
  cases p with
  | none => cases h
  | some x =>
    cases q with
    | none => cases h
    | some y => exact floatBits_lt h

theorem canon_neg_nan {v : Nat} (h : canon v = Option.none) : canon (v ^^^ 9223372036854775808) = Option.none := by
  apply canon_nan
  rw [neg_mod]
  apply Nat.lt_of_not_le
  intro hle
  rw [canon_some hle] at h
  cases h

/-- .. and its end: the value, and what 'sameValue' asks. -/
theorem same_opp {v nv : Nat} (hv : ∀ a, canon v = some a → a < 18446744073709551616) (h : Opp (canon v) (canon nv)) :
    (canon nv = Option.none ∧ canon (Op.negFloat .f64 v) = Option.none) ∨ FloatKind.f64.format.order nv (Op.negFloat .f64 v) = some .eq := by
  rw [negFloat_eq]
  rcases h with ⟨h1, h2⟩ | ⟨a, b, h1, h2, hn, h⟩
  · exact .inl ⟨h2, canon_neg_nan h1⟩
  · right
    have hlt := hv a h1
    obtain ⟨rfl, _⟩ := canon_eq_some h1
    obtain ⟨rfl, hn2⟩ := canon_eq_some h2
    have eo : FloatKind.f64.format.order b (a ^^^ 9223372036854775808) = (Ieee.double.read b).order (Ieee.double.read (a ^^^ 9223372036854775808)) := rfl
    rw [eo, read_neg hlt]
    rcases h with h | ⟨s, i, t, j, e1, e2⟩
    · have es := order_self hn2
      have eo2 : FloatKind.f64.format.order b b = (Ieee.double.read b).order (Ieee.double.read b) := rfl
      rw [eo2, h] at es
      rw [h]
      exact es
    · rw [e1, e2]
      simp only [Ieee.Datum.opposite, Ieee.Datum.order, signed_zero]
      rfl
end Go.Proofs.Qxb6601754a
