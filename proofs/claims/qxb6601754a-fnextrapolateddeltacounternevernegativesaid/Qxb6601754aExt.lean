import Derived.Test.Qxb6601754aInst
import Derived.Deep.DeepCutAuto
namespace Go.Proofs.Qxb6601754a
open Go.RowKit
attribute [local go_sem] run_store_float

/-- The order of two floats without a NaN's bits. -/
def forder (x y : Option Nat) : Option Ordering :=
  match x, y with
  | some x, some y => FloatKind.f64.format.order x y
  | _, _ => Option.none

theorem order_forder (x y : Nat) : FloatKind.f64.format.order x y = forder (canon x) (canon y) := by
  cases hx : canon x with
  | none => rw [order_nan_left hx]; rfl
  | some u =>
    obtain ⟨rfl, _⟩ := canon_eq_some hx
    cases hy : canon y with
    | none => rw [order_nan_right hy]; rfl
    | some v => obtain ⟨rfl, _⟩ := canon_eq_some hy; rfl

/-- Go's 'seconds'. -/
def secF (rng : Int) : Option Nat :=
  fop .add (canon (floatOfInt .f64 (wrap64 (rng.tdiv 1000)))) (fop .quo (canon (floatOfInt .f64 (rng.tmod 1000))) (canon 4652007308841189376))

set_option maxHeartbeats 400000 in
theorem sec_any (rng : Int) (w : World) :
    Calls Try.prog 35 #[.int .i64 rng] w fun e w' => ∃ r, e = .returned (.float .f64 r) ∧ canon r = secF rng ∧ ∃ n, w' = w.drewN n := by
  go_enter Try.func35, Try.ntmps35
  go_wp2_with (refine wpList_float rfl _ _ _ _ _ rfl rfl _ _ rfl rfl ?_; intro r nd hres)
  rename_i r1 n1 h1
  go_ret
  exact ⟨_, rfl, by rw [hres.1, h1.1]; rfl, _, rfl⟩

/-- The sum of a counter's growth and its resets: 'k' points behind the first. -/
def dlt (V : Nat → Option Nat) (d : Option Nat) : Nat → Option Nat
  | 0 => d
  | k + 1 => if forder (V (k + 1)) (V k) == some .lt then fop .add (dlt V d k) (V k) else dlt V d k

def deltaF (V : Nat → Option Nat) (n : Nat) (counter : Bool) : Option Nat :=
  if counter then dlt V (fop .sub (V (n - 1)) (V 0)) (n - 1) else fop .sub (V (n - 1)) (V 0)

/-- How far the growth is extrapolated towards the start. -/
def startF (v0 delta sampled to0 : Option Nat) (counter : Bool) : Option Nat :=
  if counter && (forder delta (canon 0) == some .gt) && (forder v0 (canon 0) == some .gt || forder v0 (canon 0) == some .eq) then
    (if forder (fop .mul sampled (fop .quo v0 delta)) to0 == some .lt then fop .mul sampled (fop .quo v0 delta) else to0)
  else to0

/-- 'extrapolated += x' or half the average gap. -/
def moreF (e x thr avg : Option Nat) : Option Nat :=
  if forder x thr == some .lt then fop .add e x else fop .add e (fop .quo avg (canon 4611686018427387904))

def factorF (start stop sampled avg : Option Nat) : Option Nat :=
  fop .quo (moreF (moreF sampled start (fop .mul avg (canon 4607632778762754458)) avg) stop (fop .mul avg (canon 4607632778762754458)) avg) sampled

/-- What 'extrapolatedDelta' gives: 'a', 'z', 's': the milliseconds to the start, to the end and between the first point and the last. -/
def extG (V : Nat → Option Nat) (n : Nat) (a z s rng : Int) (counter ps : Bool) : Option Nat :=
  let delta := deltaF V n counter
  let sampled := gapF s
  let avg := fop .quo sampled (canon (floatOfInt .f64 ((n : Int) - 1)))
  let factor := factorF (startF (V 0) delta sampled (gapF a) counter) (gapF z) sampled avg
  fop .mul delta (if ps then fop .quo factor (secF rng) else factor)

/-- Two points of one's own. -/
def TwoPts (w : World) (i j : Nat) (t0 t1 : Int) (v0 v1 : Nat) : Prop :=
  w.cell? ⟨i, 0, Option.none⟩ = some (.int .i64 t0) ∧ w.cell? ⟨i, 1, Option.none⟩ = some (.float .f64 v0) ∧ w.cell? ⟨j, 0, Option.none⟩ = some (.int .i64 t1) ∧ w.cell? ⟨j, 1, Option.none⟩ = some (.float .f64 v1)

theorem cells_two (w : World) (a0 a1 b0 b1 : Value) (t : TypeId) :
    (((w.alloc (.cells #[a0, a1] t)).alloc (.cells #[b0, b1] t)).drew.cell? ⟨w.heap.size, 0, Option.none⟩ = some a0 ∧ ((w.alloc (.cells #[a0, a1] t)).alloc (.cells #[b0, b1] t)).drew.cell? ⟨w.heap.size, 1, Option.none⟩ = some a1) ∧
    ((w.alloc (.cells #[a0, a1] t)).alloc (.cells #[b0, b1] t)).drew.cell? ⟨w.heap.size + 1, 0, Option.none⟩ = some b0 ∧ ((w.alloc (.cells #[a0, a1] t)).alloc (.cells #[b0, b1] t)).drew.cell? ⟨w.heap.size + 1, 1, Option.none⟩ = some b1 := by
  have hs : (w.alloc (.cells #[a0, a1] t)).heap.size = w.heap.size + 1 := World.size_alloc _ _
  simp only [World.cell?_drew]
  refine ⟨⟨?_, ?_⟩, ?_, ?_⟩
  · rw [World.cell?_alloc_lt _ _ _ (by rw [hs]; exact Nat.lt_succ_self _), World.cell?_alloc_new]; rfl
  · rw [World.cell?_alloc_lt _ _ _ (by rw [hs]; exact Nat.lt_succ_self _), World.cell?_alloc_new]; rfl
  · rw [← hs, World.cell?_alloc_new]; rfl
  · rw [← hs, World.cell?_alloc_new]; rfl

theorem two_mk1 (w : World) (t0 t1 : Int) (v0 v1 : Nat) :
    TwoPts ((w.alloc (.cells #[.int .i64 t0, .float .f64 v0] 34)).alloc (.cells #[.int .i64 t1, .float .f64 v1] 34)).drew w.heap.size (w.heap.size + 1) t0 t1 v0 v1 :=
  have h := cells_two w (.int .i64 t0) (.float .f64 v0) (.int .i64 t1) (.float .f64 v1) 34
  ⟨h.1.1, h.1.2, h.2.1, h.2.2⟩
theorem two_mk2 (w : World) (t0 t1 : Int) (v0 v1 : Nat) :
    TwoPts ((w.alloc (.cells #[.int .i64 t1, .float .f64 v1] 34)).alloc (.cells #[.int .i64 t0, .float .f64 v0] 34)).drew (w.heap.size + 1) w.heap.size t0 t1 v0 v1 :=
  have h := cells_two w (.int .i64 t1) (.float .f64 v1) (.int .i64 t0) (.float .f64 v0) 34
  ⟨h.2.1, h.2.2, h.1.1, h.1.2⟩
theorem below_two (w : World) (o o' : Obj) : Below w.heap.size w ((w.alloc o).alloc o').drew :=
  (((Below.refl _ _).alloc (Nat.le_refl _) _).alloc (by rw [World.size_alloc]; exact Nat.le_succ _) _).drew

theorem two_alloc {w : World} {i j : Nat} {t0 t1 : Int} {v0 v1 : Nat} (h : TwoPts w i j t0 t1 v0 v1) (o : Obj) : TwoPts (w.alloc o) i j t0 t1 v0 v1 := by
  obtain ⟨a, b, c, d⟩ := h
  have hi : i < w.heap.size := World.block_lt_of_cell? _ _ a
  have hj : j < w.heap.size := World.block_lt_of_cell? _ _ c
  exact ⟨(World.cell?_alloc_lt _ _ _ hi).trans a, (World.cell?_alloc_lt _ _ _ hi).trans b, (World.cell?_alloc_lt _ _ _ hj).trans c, (World.cell?_alloc_lt _ _ _ hj).trans d⟩

/-- 'counter && delta > 0 && first.V >= 0'. -/
def StartCond (counter : Bool) (d v0 : Nat) : Bool :=
  counter && (FloatKind.f64.format.order d 0 == some .gt) && (FloatKind.f64.format.order v0 0 == some .gt || FloatKind.f64.format.order v0 0 == some .eq)

theorem dlt_yes {V : Nat → Nat} {d : Option Nat} {k : Nat} (h : (FloatKind.f64.format.order (V (k + 1)) (V k) == some .lt) = true) :
    dlt (fun i => canon (V i)) d (k + 1) = fop .add (dlt (fun i => canon (V i)) d k) (canon (V k)) := by
  rw [order_forder] at h
  simp only [dlt, h, if_true]
theorem dlt_no {V : Nat → Nat} {d : Option Nat} {k : Nat} (h : (FloatKind.f64.format.order (V (k + 1)) (V k) == some .lt) = false) :
    dlt (fun i => canon (V i)) d (k + 1) = dlt (fun i => canon (V i)) d k := by
  rw [order_forder] at h
  simp only [dlt, h, Bool.false_eq_true, if_false]

theorem more_yes {e x thr avg : Nat} (h : (FloatKind.f64.format.order x thr == some .lt) = true) : moreF (canon e) (canon x) (canon thr) (canon avg) = fop .add (canon e) (canon x) := by
  rw [order_forder] at h
  simp only [moreF, h, if_true]
theorem more_no {e x thr avg : Nat} (h : (FloatKind.f64.format.order x thr == some .lt) = false) : moreF (canon e) (canon x) (canon thr) (canon avg) = fop .add (canon e) (fop .quo (canon avg) (canon 4611686018427387904)) := by
  rw [order_forder] at h
  simp only [moreF, h, Bool.false_eq_true, if_false]

theorem startF_eq (v0 d : Nat) (S A : Option Nat) (counter : Bool) : startF (canon v0) (canon d) S A counter =
    if StartCond counter d v0 then (if forder (fop .mul S (fop .quo (canon v0) (canon d))) A == some .lt then fop .mul S (fop .quo (canon v0) (canon d)) else A) else A := by
  simp only [startF, StartCond, order_forder]

set_option maxRecDepth 100000 in
set_option maxHeartbeats 4000000 in
theorem ext_any (b off n c : Nat) (T : Nat → Int) (V : Nat → Nat) (t rng : Int) (counter ps : Bool) (w : World) (hr : Reads w b off n T V) (h2 : 2 ≤ n) (hn : n ≤ 1048576) (hc : n ≤ c) :
    Calls Try.prog 33 #[.slice (some ⟨b, off, Option.none⟩) n c, .int .i64 t, .int .i64 rng, .bool counter, .bool ps] w fun e w' => ∃ r, e = .returned (.tuple #[.float .f64 r, .bool true]) ∧
      canon r = extG (fun i => canon (V i)) n (wrap64 (wrap64 (T 0 - t) + rng)) (wrap64 (t - T (n - 1))) (wrap64 (T (n - 1) - T 0)) rng counter ps ∧ Below w.heap.size w w' := by
  have hbl : b < w.heap.size := at_pt hr (k := n - 2) (by omega)
  have c0 : w.cell? ⟨b, off, Option.none⟩ = some (.int .i64 (T 0)) := by simpa using (hr 0 (by omega)).1
  have c1 : w.cell? ⟨b, off + 1, Option.none⟩ = some (.float .f64 (V 0)) := by simpa using (hr 0 (by omega)).2
  have d0 := (hr (n - 1) (by omega)).1
  have d1 := (hr (n - 1) (by omega)).2
  go_enter Try.func33, Try.ntmps33
  go_wp2
  go_cut [12, 13] (fun p q wx => ∃ i j, p = .pointer (some ⟨i, 0, Option.none⟩) ∧ q = .pointer (some ⟨j, 0, Option.none⟩) ∧ TwoPts wx i j (T 0) (T (n - 1)) (V 0) (V (n - 1)) ∧ Below w.heap.size w wx)
  case first =>
    go_region
    all_goals go_wp2_with fail
    all_goals go_meet
    · exact ⟨_, _, rfl, rfl, two_mk1 _ _ _ _ _, below_two _ _ _⟩
    · exact ⟨_, _, rfl, rfl, two_mk2 _ _ _ _ _, below_two _ _ _⟩
  case rest =>
    obtain ⟨i, j, rfl, rfl, hT, hB⟩ := hcut
    clear c0 c1 d0 d1
    obtain ⟨c0, c1, d0, d1⟩ := hT
    go_upto_if 43 with (refine wpList_float rfl _ _ _ _ _ rfl rfl _ _ rfl rfl ?_; intro r nd hres)
    have hij : i < wc.heap.size ∧ j < wc.heap.size := ⟨World.block_lt_of_cell? _ _ c0, World.block_lt_of_cell? _ _ d0⟩
    go_cut [14] (fun p wx => ∃ d, p = .float .f64 d ∧ canon d = deltaF (fun i => canon (V i)) n counter ∧ TwoPts wx i j (T 0) (T (n - 1)) (V 0) (V (n - 1)) ∧ Below w.heap.size w wx)
    case first =>
      cases counter with
      | false =>
        go_wp2
        go_meet
        exact ⟨r, rfl, hres.1, ⟨c0, c1, d0, d1⟩, below_drewN hB _⟩
      | true =>
        go_wp2
        go_loopw [14, 15, 49] (fun s14 s15 s49 wr => ∃ k d, k ≤ n - 1 ∧ s49 = .int .i64 (k : Nat) ∧ s15 = .float .f64 (V k) ∧ s14 = .float .f64 d ∧ canon d = dlt (fun i => canon (V i)) (fop .sub (canon (V (n - 1))) (canon (V 0))) k ∧ TwoPts wr i j (T 0) (T (n - 1)) (V 0) (V (n - 1)) ∧ Below w.heap.size w wr) (fun _ _ s49 _ => n - 1 - (intOf s49).toNat)
        case atStart => exact ⟨0, r, Nat.zero_le _, rfl, rfl, rfl, hres.1, ⟨c0, c1, d0, d1⟩, below_drewN hB _⟩
        case round =>
          obtain ⟨k, d, hk, rfl, rfl, rfl, hd, hT, hBr⟩ := hrel
          have Hd : Hid (canon d = dlt (fun i => canon (V i)) (fop .sub (canon (V (n - 1))) (canon (V 0))) k) := hd
          clear hd c0 c1 d0 d1
          by_cases hlt : k < n - 1
          · have hbr : b < wr.heap.size := Nat.lt_of_lt_of_le hbl hBr.size
            have e0 : wr.cell? ⟨b, off + 2 + k * 2, Option.none⟩ = some (.int .i64 (T (k + 1))) := by
              rw [show off + 2 + k * 2 = off + (k + 1) * 2 by omega]; exact (hBr.cell (by exact hbl)).trans (hr (k + 1) (by omega)).1
            have e1 : wr.cell? ⟨b, off + 2 + k * 2 + 1, Option.none⟩ = some (.float .f64 (V (k + 1))) := by
              rw [show off + 2 + k * 2 + 1 = off + (k + 1) * 2 + 1 by omega]; exact (hBr.cell (by exact hbl)).trans (hr (k + 1) (by omega)).2
            cases ht : (FloatKind.f64.format.order (V (k + 1)) (V k) == some .lt) with
            | true =>
              go_wp2_with (refine wpList_float rfl _ _ _ _ _ rfl rfl _ _ rfl rfl ?_; intro r nd hres)
              go_roundw
              case rel => exact ⟨k + 1, r, by omega, by go_num, rfl, rfl, by rw [dlt_yes ht, hres.1, Hd.out], two_alloc hT _, below_drewN (hBr.alloc hBr.size _) _⟩
              case measure => simp [intOf]; omega
            | false =>
              go_wp2
              go_roundw
              case rel => exact ⟨k + 1, d, by omega, by go_num, rfl, rfl, by rw [dlt_no ht]; exact Hd.out, two_alloc hT _, hBr.alloc hBr.size _⟩
              case measure => simp [intOf]; omega
          · obtain rfl : k = n - 1 := by omega
            go_wp2
            go_meet
            exact ⟨d, rfl, Hd.out, hT, hBr⟩
    case rest =>
      clear c0 c1 d0 d1 hB hres hij
      obtain ⟨d, rfl, hd, ⟨c0, c1, d0, d1⟩, hB⟩ := hcut
      have Hd : Hid (canon d = deltaF (fun i => canon (V i)) n counter) := hd
      clear hd
      go_upto_region 15 with (refine wpList_float rfl _ _ _ _ _ rfl rfl _ _ rfl rfl ?_; intro r nd hres)
      revert r nd
      intro r7 n7 h7
      go_upto_region 16 with (refine wpList_float rfl _ _ _ _ _ rfl rfl _ _ rfl rfl ?_; intro r nd hres)
      revert r nd
      intro r6 n6 h6
      go_upto_region 17 with (refine wpList_float rfl _ _ _ _ _ rfl rfl _ _ rfl rfl ?_; intro r nd hres)
      revert r nd
      intro r5 n5 h5
      go_upto_region 18 with (refine wpList_float rfl _ _ _ _ _ rfl rfl _ _ rfl rfl ?_; intro r nd hres)
      revert r nd
      intro r4 n4 h4
      go_cut [99] (fun q wx => q = .bool (StartCond counter d (V 0)) ∧ ∃ m, wx = wc.drewN m)
      case first =>
        cases counter with
        | false =>
          go_wp2
          go_meet
          exact ⟨rfl, _, rfl⟩
        | true =>
          cases t1 : (FloatKind.f64.format.order d 0 == some .gt) with
          | false =>
            go_wp2
            go_meet
            exact ⟨by unfold StartCond; rw [t1]; rfl, _, rfl⟩
          | true =>
            go_wp2
            go_meet
            exact ⟨by unfold StartCond; rw [t1]; rfl, _, rfl⟩
      case rest =>
        obtain ⟨rfl, m1, rfl⟩ := hcut
        have E7 : Hid (canon r7 = gapF (wrap64 (wrap64 (T 0 - t) + rng))) := h7.1
        have E6 : Hid (canon r6 = gapF (wrap64 (t - T (n - 1)))) := h6.1
        have E5 : Hid (canon r5 = gapF (wrap64 (T (n - 1) - T 0))) := h5.1
        have E4 : Hid (canon r4 = fop .quo (gapF (wrap64 (T (n - 1) - T 0))) (canon (floatOfInt .f64 ((n : Int) - 1)))) := by show canon r4 = _; rw [h4.1, E5.out]
        clear h7 h6 h5 h4
        go_upto_if 99 with fail
        go_cut [18] (fun q wx => ∃ s, q = .float .f64 s ∧ canon s = startF (canon (V 0)) (canon d) (canon r5) (canon r7) counter ∧ ∃ m, wx = wc.drewN m)
        case first =>
          cases hcb : StartCond counter d (V 0) with
          | false =>
            go_wp2
            go_meet
            exact ⟨_, rfl, by rw [startF_eq, hcb]; rfl, _, rfl⟩
          | true =>
            go_upto_if 108 with (first | (refine wpList_float rfl BinOp.quo _ _ _ _ rfl rfl _ _ rfl rfl ?_; intro rq nq hq) | (refine wpList_float rfl BinOp.mul _ _ _ _ rfl rfl _ _ rfl rfl ?_; intro rm nm hm))
            have em : canon rm = fop .mul (canon r5) (fop .quo (canon (V 0)) (canon d)) := by rw [hm.1, hq.1]
            have Em : Hid (canon rm = fop .mul (canon r5) (fop .quo (canon (V 0)) (canon d))) := em
            clear hm hq em
            cases ht : (FloatKind.f64.format.order rm r7 == some .lt) with
            | true =>
              go_wp2
              go_meet
              exact ⟨_, rfl, by rw [startF_eq, hcb]; rw [order_forder, Em.out] at ht; rw [if_pos rfl, if_pos ht]; exact Em.out, _, rfl⟩
            | false =>
              go_wp2
              go_meet
              exact ⟨_, rfl, by rw [startF_eq, hcb]; rw [order_forder, Em.out] at ht; rw [if_pos rfl, ht]; rfl, _, rfl⟩
        case rest =>
          obtain ⟨s18, rfl, hs18, m2, rfl⟩ := hcut
          have E18 : Hid (canon s18 = startF (canon (V 0)) (canon d) (canon r5) (canon r7) counter) := hs18
          clear hs18
          go_upto_region 24 with (refine wpList_float rfl _ _ _ _ _ rfl rfl _ _ rfl rfl ?_; intro r nd hres)
          revert r nd
          intro r3 n3 h3
          have E3 : Hid (canon r3 = fop .mul (canon r4) (canon 4607632778762754458)) := h3.1
          clear h3
          go_upto_if 115 with fail
          go_cut [24] (fun q wx => ∃ s, q = .float .f64 s ∧ canon s = moreF (canon r5) (canon s18) (canon r3) (canon r4) ∧ ∃ m, wx = wc.drewN m)
          case first =>
            cases ht : (FloatKind.f64.format.order s18 r3 == some .lt) with
            | true =>
              go_wp2_with (refine wpList_float rfl _ _ _ _ _ rfl rfl _ _ rfl rfl ?_; intro r nd hres)
              go_meet
              exact ⟨_, rfl, by rw [hres.1]; exact (more_yes ht).symm, _, rfl⟩
            | false =>
              go_wp2_with (first | (refine wpList_float rfl BinOp.quo _ _ _ _ rfl rfl _ _ rfl rfl ?_; intro rq nq hq) | (refine wpList_float rfl BinOp.add _ _ _ _ rfl rfl _ _ rfl rfl ?_; intro rm nm hm))
              go_meet
              exact ⟨_, rfl, by rw [hm.1, hq.1]; exact (more_no ht).symm, _, rfl⟩
          case rest =>
            obtain ⟨s24, rfl, hs24, m3, rfl⟩ := hcut
            have E24 : Hid (canon s24 = moreF (canon r5) (canon s18) (canon r3) (canon r4)) := hs24
            clear hs24
            go_upto_if 125 with fail
            go_cut [24] (fun q wx => ∃ s, q = .float .f64 s ∧ canon s = moreF (canon s24) (canon r6) (canon r3) (canon r4) ∧ ∃ m, wx = wc.drewN m)
            case first =>
              cases ht : (FloatKind.f64.format.order r6 r3 == some .lt) with
              | true =>
                go_wp2_with (refine wpList_float rfl _ _ _ _ _ rfl rfl _ _ rfl rfl ?_; intro r nd hres)
                go_meet
                exact ⟨_, rfl, by rw [hres.1]; exact (more_yes ht).symm, _, rfl⟩
              | false =>
                go_wp2_with (first | (refine wpList_float rfl BinOp.quo _ _ _ _ rfl rfl _ _ rfl rfl ?_; intro rq nq hq) | (refine wpList_float rfl BinOp.add _ _ _ _ rfl rfl _ _ rfl rfl ?_; intro rm nm hm))
                go_meet
                exact ⟨_, rfl, by rw [hm.1, hq.1]; exact (more_no ht).symm, _, rfl⟩
            case rest =>
              obtain ⟨s25, rfl, hs25, m4, rfl⟩ := hcut
              have E25 : Hid (canon s25 = moreF (canon s24) (canon r6) (canon r3) (canon r4)) := hs25
              clear hs25
              have EF : Hid (fop .quo (canon s25) (canon r5) = factorF (startF (canon (V 0)) (deltaF (fun i => canon (V i)) n counter) (gapF (wrap64 (T (n - 1) - T 0))) (gapF (wrap64 (wrap64 (T 0 - t) + rng))) counter) (gapF (wrap64 (t - T (n - 1)))) (gapF (wrap64 (T (n - 1) - T 0))) (fop .quo (gapF (wrap64 (T (n - 1) - T 0))) (canon (floatOfInt .f64 ((n : Int) - 1))))) := by
                show fop .quo (canon s25) (canon r5) = _
                rw [E25.out, E24.out, E18.out, E3.out, E4.out, E5.out, E6.out, E7.out, Hd.out]
                rfl
              cases ps with
              | false =>
                go_wp2_with (first | (refine wpList_float rfl BinOp.quo _ _ _ _ rfl rfl _ _ rfl rfl ?_; intro rq nq hq) | (refine wpList_float rfl BinOp.mul _ _ _ _ rfl rfl _ _ rfl rfl ?_; intro rm nm hm))
                go_ret2
                exact ⟨_, rfl, by rw [hm.1, hq.1, EF.out, Hd.out]; rfl, below_drewN hB _⟩
              | true =>
                go_upto_if 136 with (refine wpList_float rfl _ _ _ _ _ rfl rfl _ _ rfl rfl ?_; intro r nd hres)
                revert r nd
                intro r1 n1 h1
                go_wp2_with (first | (refine wpList_float rfl BinOp.quo _ _ _ _ rfl rfl _ _ rfl rfl ?_; intro rq nq hq) | (refine wpList_float rfl BinOp.mul _ _ _ _ rfl rfl _ _ rfl rfl ?_; intro rm nm hm) | (go_at_call 35; refine (sec_any _ _).mono ?_; rintro e w' ⟨rs, rfl, hsec, ns, rfl⟩))
                go_ret2
                exact ⟨_, rfl, by rw [hm.1, hq.1, h1.1, EF.out, Hd.out, hsec]; rfl, below_drewN hB _⟩
end Go.Proofs.Qxb6601754a
