/-
  The plain law: a counter's extrapolated growth is not below zero.
-/
import Derived.Test.Qxb6601754aSum
import Derived.Test.Qxb6601754aExt2
import Derived.Test.Qxb6601754aAgree
namespace Go.Proofs.Qxb6601754a
open Go.RowKit

theorem fin_of_number {x : Nat} {s : Bool} {m : Nat} {p : Int} (h : Ieee.double.read x = .number s m p) : FinF x := by
  unfold FinF
  apply Nat.lt_of_not_le
  intro hle
  unfold Ieee.Format.read at h
  simp only [dSW, dBin, dInf] at h
  rw [if_neg (by omega), if_neg (by omega)] at h
  split at h <;> cases h

theorem fnn_fin {v : Nat} (h : fnn v = true) : FinF v ∧ 0 ≤ fv v ∧ nonneg (Ieee.double.read v) ∧ canon v = some v := by
  obtain ⟨s, m, p, e, g⟩ := fnn_read h
  have hf := fin_of_number e
  have hn : nonneg (Ieee.double.read v) := by rw [e]; exact g
  exact ⟨hf, fin_nonneg hf hn, hn, canon_nonneg hn⟩

theorem add_nn_any {x v : Nat} (hx : nonneg (Ieee.double.read x)) (hv : fnn v = true) : ∃ r, floatBits .add .f64 x v = some r ∧ nonneg (Ieee.double.read r) := by
  obtain ⟨hf, h0, _, _⟩ := fnn_fin hv
  cases hd : Ieee.double.read x with
  | nan s f => rw [hd] at hx; cases hx
  | infinity s =>
    rw [hd] at hx
    have hs : s = false := hx
    obtain ⟨t, n, j, e, _⟩ := fnn_read hv
    have ea : floatBits .add .f64 x v = ((Ieee.double.read x).sum (Ieee.double.read v)).map Ieee.double.write := rfl
    rw [ea, hd, e, hs]
    simp only [Ieee.Datum.sum, Option.map_some]
    exact ⟨_, rfl, nonneg_write (by exact rfl)⟩
  | number s m p =>
    have hfx := fin_of_number hd
    have h1 := fin_nonneg hfx hx
    exact add_nn hfx hf (by omega)

theorem word_fin {s : Bool} {r : Nat} (h : r < 9218868437227405312) : FinF (Ieee.double.word s r) := by
  unfold FinF; rw [word_mod _ _ (by omega)]; exact h

theorem fnn_rung {v : Nat} (h : fnn v = true) : ∃ g, g < 9218868437227405312 ∧ fv v = val g := by
  obtain ⟨hf, h0, _, _⟩ := fnn_fin h
  refine ⟨v % 9223372036854775808, hf, ?_⟩
  unfold fv at h0 ⊢
  split
  · rename_i hs
    rw [if_pos hs] at h0
    omega
  · rfl

theorem delta_step {V : Nat → Nat} {n : Nat} (hV : ∀ i, i < n → fnn (V i) = true) (hn : 2 ≤ n) (k : Nat) (hk : k ≤ n - 1) :
    ∃ x, dlt (fun i => canon (V i)) (fop .sub (canon (V (n - 1))) (canon (V 0))) k = some x ∧
      (nonneg (Ieee.double.read x) ∨ (FinF x ∧ -(fv (V 0)) ≤ fv x ∧ fv (V 0) ≤ fv (V k) ∧ fv (V (n - 1)) < fv (V 0))) := by
  induction k with
  | zero =>
    obtain ⟨f0, z0, n0, c0⟩ := fnn_fin (hV 0 (by omega))
    obtain ⟨f1, z1, n1, c1⟩ := fnn_fin (hV (n - 1) (by omega))
    show ∃ x, fop .sub (canon (V (n - 1))) (canon (V 0)) = some x ∧ _
    rw [fop_canon]
    obtain ⟨neg, e, hneg, hpos⟩ := sub_fin f1 f0
    refine ⟨_, e, ?_⟩
    by_cases hlt : fv (V (n - 1)) < fv (V 0)
    · right
      rw [hneg (by omega)]
      obtain ⟨g, hg, hgv⟩ := fnn_rung (hV 0 (by omega))
      have hle : R (fv (V (n - 1)) - fv (V 0)).natAbs ≤ g := by
        have := R_mono (M := (fv (V (n - 1)) - fv (V 0)).natAbs) (N := val g) (by omega)
        rwa [R_val hg] at this
      refine ⟨word_fin (by omega), ?_, Int.le_refl _, hlt⟩
      rw [fv_neg_word (by omega)]
      have hvm := val_mono (by omega) hg hle
      generalize val (R (fv (V (n - 1)) - fv (V 0)).natAbs) = P at *
      omega
    · left
      have hle := R_le (fv (V (n - 1)) - fv (V 0)).natAbs
      by_cases hz : 0 < fv (V (n - 1)) - fv (V 0)
      · rw [hpos hz, word_false]; exact nonneg_bits hle
      · have h0 : fv (V (n - 1)) - fv (V 0) = 0 := by omega
        have hR0 : R (fv (V (n - 1)) - fv (V 0)).natAbs = 0 := by rw [h0]; exact rungOf_zero _
        rw [hR0, read_word _ _ (by omega), read_small (by omega)]
        exact .inr rfl
  | succ k ih =>
    obtain ⟨x, hx, hc⟩ := ih (by omega)
    obtain ⟨fk, zk, nk, ck⟩ := fnn_fin (hV k (by omega))
    obtain ⟨fk1, zk1, nk1, ck1⟩ := fnn_fin (hV (k + 1) (by omega))
    have ho : forder (canon (V (k + 1))) (canon (V k)) = FloatKind.f64.format.order (V (k + 1)) (V k) := (order_forder _ _).symm
    simp only [dlt]
    rw [hx, ho]
    by_cases hlt : FloatKind.f64.format.order (V (k + 1)) (V k) = some .lt
    · rw [hlt, if_pos (by rfl), ck]
      show ∃ y, floatBits .add .f64 x (V k) = some y ∧ _
      rcases hc with hc | ⟨hf, h1, h2, h3⟩
      · obtain ⟨r, hr, hn'⟩ := add_nn_any hc (hV k (by omega))
        exact ⟨r, hr, .inl hn'⟩
      · obtain ⟨r, hr, hn'⟩ := add_nn hf fk (by omega)
        exact ⟨r, hr, .inl hn'⟩
    · have hb : (FloatKind.f64.format.order (V (k + 1)) (V k) == some .lt) = false := beq_eq_false_iff_ne.2 hlt
      rw [hb]
      refine ⟨x, by simp, ?_⟩
      rcases hc with hc | ⟨hf, h1, h2, h3⟩
      · exact .inl hc
      · have hle : fv (V k) ≤ fv (V (k + 1)) := by
          apply Int.not_lt.1
          intro h
          exact hlt ((order_fin fk1 fk).2 h)
        exact .inr ⟨hf, h1, by omega, h3⟩

theorem delta_nonneg {V : Nat → Nat} {n : Nat} (hV : ∀ i, i < n → fnn (V i) = true) (hn : 2 ≤ n) :
    ∃ x, deltaF (fun i => canon (V i)) n true = some x ∧ nonneg (Ieee.double.read x) := by
  obtain ⟨x, hx, hc⟩ := delta_step hV hn (n - 1) (Nat.le_refl _)
  refine ⟨x, hx, ?_⟩
  rcases hc with hc | ⟨_, _, h2, h3⟩
  · exact hc
  · omega

theorem pos_read {x : Nat} (h : FloatKind.f64.format.order x 0 = some .gt) : (∃ m p, Ieee.double.read x = .number false m p ∧ m ≠ 0) ∨ Ieee.double.read x = .infinity false := by
  have hn := order_nonneg (.inl h)
  have e : FloatKind.f64.format.order x 0 = (Ieee.double.read x).order (Ieee.double.read 0) := rfl
  rw [e, read_small (by omega : 0 < 4503599627370496)] at h
  cases hd : Ieee.double.read x with
  | nan s f => rw [hd] at hn; cases hn
  | infinity s => rw [hd] at hn; have hs : s = false := hn; right; rw [hs]
  | number s m p =>
    left
    rw [hd] at hn h
    have hm : m ≠ 0 := by
      intro hm
      rw [hm] at h
      have s0 : ∀ s k, Ieee.signed s 0 k = 0 := by intro s k; unfold Ieee.signed; rw [shl_eq, Nat.zero_mul]; cases s <;> rfl
      simp only [Ieee.Datum.order, s0] at h
      cases h
    rcases hn with hs | h0
    · exact ⟨m, p, by rw [hs], hm⟩
    · exact absurd h0 hm

theorem quo_nn {v d : Nat} (hv : fnn v = true) (hd : FloatKind.f64.format.order d 0 = some .gt) : ∃ r, floatBits .quo .f64 v d = some r ∧ nonneg (Ieee.double.read r) := by
  obtain ⟨_, _, hn, _⟩ := fnn_fin hv
  rcases pos_read hd with ⟨m, p, e, hm⟩ | e
  · exact quo_nonneg hn e hm
  · obtain ⟨s, m, p, ev, _⟩ := fnn_read hv
    have eq : floatBits .quo .f64 v d = ((Ieee.double.read v).quotient (Ieee.double.fractionBits + 2) (Ieee.double.read d)).map Ieee.double.write := rfl
    rw [eq, ev, e]
    simp only [Ieee.Datum.quotient, Option.map_some]
    exact ⟨_, rfl, nonneg_write (.inr rfl)⟩

/-- How far towards the start: not below zero. -/
theorem start_nn {v d g a : Nat} (hv : fnn v = true) (hcd : canon d = some d) {lo hi : Nat} (hg : Norm lo hi g) (h1 : 1 ≤ lo) (h2 : hi ≤ 2046) (ha : nonneg (Ieee.double.read a)) :
    ∃ st, startF (canon v) (some d) (some g) (some a) true = some st ∧ nonneg (Ieee.double.read st) := by
  have e := startF_eq v d (some g) (some a) true
  rw [hcd] at e
  rw [e]
  cases hc : StartCond true d v with
  | false => exact ⟨a, rfl, ha⟩
  | true =>
    rw [if_pos rfl]
    have hd : FloatKind.f64.format.order d 0 = some .gt := by
      unfold StartCond at hc
      rw [Bool.and_eq_true, Bool.true_and, beq_iff_eq] at hc
      exact hc.1
    obtain ⟨q, hq, hqn⟩ := quo_nn hv hd
    have hq' : fop .quo (canon v) (some d) = some q := by rw [(fnn_fin hv).2.2.2]; exact hq
    obtain ⟨n, j, hr, hne⟩ := norm_read hg h1 h2
    obtain ⟨z, hz, hzn⟩ := (mul_nonneg hqn hr hne).2
    have hz' : fop .mul (some g) (some q) = some z := hz
    rw [hq', hz']
    split
    · exact ⟨z, rfl, hzn⟩
    · exact ⟨a, rfl, ha⟩

theorem two_norm : Norm 1024 1024 4611686018427387904 := by constructor <;> omega

/-- One edge: the number grows, and stays in bounds. -/
theorem more_norm {lo hi g st thr avg lt ht la K : Nat} (hg : Norm lo hi g) (h1 : 1 ≤ lo) (h3 : 1 ≤ hi) (hs : nonneg (Ieee.double.read st)) (hthr : Norm lt ht thr) (hlt : 1 ≤ lt) (havg : Norm la K avg) (hla : 3 ≤ la)
    (hK : hi ≤ K) (hK2 : K ≤ 1100) (htK : ht ≤ K) (hth : 1 ≤ ht) : ∃ r, moreF (some g) (some st) (some thr) (some avg) = some r ∧ Norm lo (K + 1) r := by
  unfold moreF
  have ho : forder (some st) (some thr) = FloatKind.f64.format.order st thr := rfl
  rw [ho]
  by_cases hc : FloatKind.f64.format.order st thr = some .lt
  · rw [hc, if_pos (by rfl)]
    show ∃ r, floatBits .add .f64 g st = some r ∧ _
    obtain ⟨ft, et⟩ := norm_fin hthr (by omega)
    have hf : FinF st := by
      cases hd : Ieee.double.read st with
      | nan s f => rw [hd] at hs; cases hs
      | infinity s =>
        exfalso
        rw [hd] at hs
        have hs' : s = false := hs
        obtain ⟨n, j, hr, _⟩ := norm_read hthr hlt (by omega)
        have e : FloatKind.f64.format.order st thr = (Ieee.double.read st).order (Ieee.double.read thr) := rfl
        rw [e, hd, hr, hs'] at hc
        cases hc
      | number s m p => exact fin_of_number hd
    have hlt' := (order_fin hf ft).1 hc
    have hv := Nat.le_trans (val_norm hthr hth (by omega)) (pow_le (a := ht - 1) (b := K - 1) (by omega))
    rw [et] at hlt'
    exact add_norm hg h1 hK (by omega) h3 hf (fin_nonneg hf hs) (by generalize 4503599627370496 * 2 ^ (K - 1) = P at *; omega)
  · have hb : (FloatKind.f64.format.order st thr == some .lt) = false := beq_eq_false_iff_ne.2 hc
    rw [hb, if_neg (by simp)]
    have c2 : canon 4611686018427387904 = some 4611686018427387904 := canon_norm two_norm (by omega) (by omega)
    obtain ⟨h, hh, hN⟩ := div_norm havg two_norm (by omega) (by omega) (by omega) (by omega) (by omega) (by omega)
    have hh' : fop .quo (some avg) (canon 4611686018427387904) = some h := by rw [c2]; exact hh
    rw [hh']
    show ∃ r, floatBits .add .f64 g h = some r ∧ _
    have hN2 : Norm 1 K h := hN.mono (by omega) (by omega)
    obtain ⟨fh, eh⟩ := norm_fin hN2 (by omega)
    have hv := val_norm hN2 (by omega) (by omega)
    exact add_norm hg h1 hK (by omega) h3 fh (by rw [eh]; omega) (by rw [eh]; generalize 4503599627370496 * 2 ^ (K - 1) = P at *; omega)

theorem gap_nn {d : Int} (h0 : 0 ≤ d) (h : d < 2 ^ 63) : ∃ r, gapF d = some r ∧ nonneg (Ieee.double.read r) ∧ FinF r ∧ fv r ≤ ((4503599627370496 * 2 ^ (1078 - 1) : Nat) : Int) := by
  by_cases hd : d = 0
  · rw [hd]
    refine ⟨0, gap_zero, by rw [read_small (by omega)]; exact .inl rfl, by unfold FinF; omega, ?_⟩
    rw [fv_pos_word (by omega)]
    have : val 0 = 0 := by unfold val; rw [if_pos (by omega)]
    rw [this]
    exact Int.natCast_nonneg _
  · obtain ⟨r, hr, hN⟩ := gap_norm (show 0 < d by omega) h
    obtain ⟨fr, er⟩ := norm_fin hN (by omega)
    have hv := val_norm hN (by omega) (by omega)
    obtain ⟨n, j, hrd, _⟩ := norm_read hN (by omega) (by omega)
    exact ⟨r, hr, by rw [hrd]; exact .inl rfl, fr, by rw [er]; generalize 4503599627370496 * 2 ^ (1078 - 1) = P at *; omega⟩

/-- The range in seconds. -/
theorem sec_norm {rng : Int} (h0 : 0 < rng) (h : rng < 2 ^ 63) : ∃ r, secF rng = some r ∧ Norm 1012 1087 r := by
  have hq : wrap64 (rng.tdiv 1000) = rng / 1000 := by
    rw [Int.tdiv_eq_ediv_of_nonneg (by omega)]
    unfold wrap64; omega
  have hr : rng.tmod 1000 = rng % 1000 := Int.tmod_eq_emod_of_nonneg (by omega)
  have hsec : secF rng = fop .add (canon (floatOfInt .f64 (rng / 1000))) (gapF (rng % 1000)) := by
    unfold secF gapF; rw [hq, hr]
  rw [hsec]
  obtain ⟨y, hy, hyn, hyf, hyv⟩ := gap_nn (d := rng % 1000) (by omega) (by omega)
  rw [hy]
  by_cases hq0 : rng / 1000 = 0
  · rw [hq0]
    have e0 : floatOfInt .f64 0 = 0 := by decide +kernel
    rw [e0, canon_some (x := 0) (by omega)]
    show ∃ r, floatBits .add .f64 0 y = some r ∧ _
    obtain ⟨g, hg, hN⟩ := gap_norm (show 0 < rng % 1000 by omega) (show rng % 1000 < 2 ^ 63 by omega)
    rw [hy] at hg
    cases hg
    obtain ⟨fy, ey⟩ := norm_fin hN (by omega)
    have f0 : FinF 0 := by unfold FinF; omega
    have v0 : fv 0 = 0 := by rw [fv_pos_word (by omega)]; unfold val; rw [if_pos (by omega)]; rfl
    obtain ⟨neg, e, _, hpos⟩ := add_fin f0 fy
    have hyl := norm_lt hN (by omega)
    have hpy : 0 < val y := by
      unfold val
      obtain ⟨a, _⟩ := hN
      rw [if_neg (by omega)]
      exact Nat.mul_pos (by omega) (Nat.two_pow_pos _)
    rw [v0, ey] at e hpos
    rw [hpos (by omega), word_false, Int.zero_add, Int.natAbs_natCast, R_val hyl] at e
    exact ⟨y, e, hN.mono (by omega) (by omega)⟩
  · have hN : Norm 1023 1086 (floatOfInt .f64 (rng / 1000)) := (int_norm (d := rng / 1000) (k := 63) (by omega) (by omega) (by omega)).mono (by omega) (by omega)
    rw [canon_norm hN (by omega) (by omega)]
    show ∃ r, floatBits .add .f64 (floatOfInt .f64 (rng / 1000)) y = some r ∧ _
    have hp := pow_le (a := 1078 - 1) (b := 1086 - 1) (by omega)
    obtain ⟨r, hr', hrN⟩ := add_norm hN (by omega) (Nat.le_refl _) (by omega) (by omega) hyf (fin_nonneg hyf hyn) (by
      generalize 4503599627370496 * 2 ^ (1078 - 1) = P at *
      generalize 4503599627370496 * 2 ^ (1086 - 1) = Q at *
      omega)
    exact ⟨r, hr', hrN.mono (by omega) (by omega)⟩

/-- THE PLAIN LAW. -/
theorem never_negative {V : Nat → Nat} {n : Nat} (hV : ∀ i, i < n → fnn (V i) = true) (hn : 2 ≤ n) (hn2 : n ≤ 65536) {a z s rng : Int} (ha : 0 < a) (ha2 : a < 2 ^ 63) (hz : 0 ≤ z) (hz2 : z < 2 ^ 63) (hs : 0 < s) (hs2 : s < 2 ^ 63) (hr : 0 < rng) (hr2 : rng < 2 ^ 63) (ps : Bool) :
    ∃ r, extG (fun i => canon (V i)) n a z s rng true ps = some r ∧ nonneg (Ieee.double.read r) := by
  obtain ⟨d, hd, hdn⟩ := delta_nonneg hV hn
  obtain ⟨g, hg, hgN⟩ := gap_norm hs hs2
  obtain ⟨a0, ha0, han, _, _⟩ := gap_nn (Int.le_of_lt ha) ha2
  obtain ⟨z0, hz0, hzn, _, _⟩ := gap_nn hz hz2
  have hiN : Norm 1023 1039 (floatOfInt .f64 ((n : Int) - 1)) := (int_norm (d := (n : Int) - 1) (k := 16) (by omega) (by omega) (by omega)).mono (by omega) (by omega)
  obtain ⟨avg, hav, havN0⟩ := div_norm hgN hiN (by omega) (by omega) (by omega) (by omega) (by omega) (by omega)
  have havN : Norm 995 1079 avg := havN0.mono (by omega) (by omega)
  have hav' : fop .quo (some g) (canon (floatOfInt .f64 ((n : Int) - 1))) = some avg := by rw [canon_norm hiN (by omega) (by omega)]; exact hav
  obtain ⟨thr, hth, hthN0⟩ := mul_norm havN oneone (by omega) (by omega) (by omega) (by omega) (by omega) (by omega)
  have hthN : Norm 995 1082 thr := hthN0.mono (by omega) (by omega)
  have hth' : fop .mul (some avg) (canon 4607632778762754458) = some thr := by rw [canon_norm oneone (by omega) (by omega)]; exact hth
  obtain ⟨st, hst, hstn⟩ := start_nn (a := a0) (hV 0 (by omega)) (canon_nonneg hdn) hgN (by omega) (by omega) han
  obtain ⟨m1, hm1, hm1N⟩ := more_norm (K := 1082) hgN (by omega) (by omega) hstn hthN (by omega) (havN.mono (Nat.le_refl _) (by omega)) (by omega) (by omega) (by omega) (by omega) (by omega)
  obtain ⟨m2, hm2, hm2N⟩ := more_norm (K := 1083) hm1N (by omega) (by omega) hzn (hthN.mono (Nat.le_refl _) (by omega : 1082 ≤ 1083)) (by omega) (havN.mono (Nat.le_refl _) (by omega)) (by omega) (by omega) (by omega) (by omega) (by omega)
  obtain ⟨f, hf, hfN0⟩ := div_norm hm2N hgN (by omega) (by omega) (by omega) (by omega) (by omega) (by omega)
  have hfN : Norm 956 1096 f := hfN0.mono (by omega) (by omega)
  have hfac : factorF (startF (canon (V 0)) (deltaF (fun i => canon (V i)) n true) (gapF s) (gapF a) true) (gapF z) (gapF s) (fop .quo (gapF s) (canon (floatOfInt .f64 ((n : Int) - 1)))) = some f := by
    unfold factorF
    rw [hd, hg, ha0, hz0, hst, hav', hth', hm1, hm2]
    exact hf
  have hlast : ∃ F, (if ps then fop .quo (some f) (secF rng) else some f) = some F ∧ ∃ m j, Ieee.double.read F = .number false m j ∧ m ≠ 0 := by
    cases ps with
    | false => exact ⟨f, rfl, norm_read hfN (by omega) (by omega)⟩
    | true =>
      obtain ⟨sc, hsc, hscN⟩ := sec_norm hr hr2
      rw [hsc]
      obtain ⟨F, hF, hFN⟩ := div_norm hfN hscN (by omega) (by omega) (by omega) (by omega) (by omega) (by omega)
      exact ⟨F, hF, norm_read hFN (by omega) (by omega)⟩
  obtain ⟨F, hF, m, j, hFr, hFm⟩ := hlast
  have hext : extG (fun i => canon (V i)) n a z s rng true ps = fop .mul (some d) (some F) := by
    unfold extG
    simp only
    rw [hfac, hF, hd]
  rw [hext]
  exact (mul_nonneg hdn hFr hFm).1
end Go.Proofs.Qxb6601754a
