import Derived.Test.Qxb6601754aRankW
import Derived.Deep.DeepCutAuto
namespace Go.Proofs.Qxb6601754a
open Go.RowKit
attribute [local go_sem] run_store_float

theorem rank_exists {T : Nat → Int} (t : Int) : ∀ (n : Nat), Sorted T n → ∃ L, IsRank T n t L
  | 0, _ => ⟨0, Nat.le_refl _, fun q hq => absurd hq (by omega), fun q _ hq => absurd hq (by omega)⟩
  | n + 1, hs => by
    obtain ⟨L, h1, h2, h3⟩ := rank_exists t n (fun i hi => hs i (by omega))
    by_cases hL : L = n ∧ T n < t
    · refine ⟨n + 1, Nat.le_refl _, fun q hq => ?_, fun q h h' => absurd h' (by omega)⟩
      by_cases e : q = n
      · rw [e]; exact hL.2
      · exact h2 q (by omega)
    · refine ⟨L, by omega, h2, fun q hq hq' => ?_⟩
      by_cases e : q = n
      · subst e
        by_cases hLn : L = q
        · omega
        · have a := h3 L (Nat.le_refl _) (by omega)
          have b := hs.le' (i := L) (j := q) (by omega) (by omega)
          omega
      · exact h3 q hq (by omega)

/-- 'countLess', its answer known ahead. -/
theorem cl_at (a : Option Addr) (n c : Nat) (T : Nat → Int) (V : Nat → Nat) (t : Int) (L : Nat) (w : World) (h : Pts w a n T V) (hs : Sorted T n) (hn : n ≤ 1048576) (hL : IsRank T n t L) :
    Calls Try.prog 15 #[.slice a n c, .int .i64 t] w fun e w' => e = .returned (.int .i64 L) ∧ w = w' := by
  refine (cl_any a n c T V t w h hs hn).mono ?_
  rintro e w' ⟨⟨M, rfl, hM⟩, rfl⟩
  rw [rank_unique hM hL]
  exact ⟨rfl, rfl⟩

/-- Is a time of the first 'k' points among the second series? -/
def ShSt (Ta : Nat → Int) (n1 : Nat) (Tb : Nat → Int) (n2 k : Nat) (s : Bool) : Prop :=
  (s = false → ∀ p, p < k → ∀ q, q < n2 → Ta p ≠ Tb q) ∧ (s = true → ∃ p q, p < n1 ∧ q < n2 ∧ Ta p = Tb q)

/-- The state of the law's first loop. -/
def ShRel (Ta : Nat → Int) (n1 : Nat) (Tb : Nat → Int) (n2 : Nat) (w4 : World) (v7 v8 : Value) (wr : World) : Prop :=
  ∃ k s, k ≤ n1 ∧ v8 = .int .i64 (k : Nat) ∧ v7 = .bool s ∧ ShSt Ta n1 Tb n2 k s ∧ ∃ m, wr = w4.drewN m

theorem sh_hit {Ta : Nat → Int} {n1 : Nat} {Tb : Nat → Int} {n2 k L : Nat} (hk : k < n1) (hL : L < n2) (e : Tb L = Ta k) : ShSt Ta n1 Tb n2 (k + 1) true :=
  ⟨fun h => (by cases h), fun _ => ⟨k, L, hk, hL, e.symm⟩⟩
theorem sh_miss {Ta : Nat → Int} {n1 : Nat} {Tb : Nat → Int} {n2 k L : Nat} (hs : Sorted Tb n2) (h : ShSt Ta n1 Tb n2 k false) (hL : IsRank Tb n2 (Ta k) L) (hno : ¬ (L < n2 ∧ Tb L = Ta k)) : ShSt Ta n1 Tb n2 (k + 1) false := by
  refine ⟨fun _ p hp q hq e => ?_, fun h => (by cases h)⟩
  by_cases ep : p = k
  · subst ep
    exact hno (rank_hit hs hL hq e.symm)
  · exact h.1 rfl p (by omega) q hq e

theorem walk3_long (a1 : Option Addr) (n1 c1 : Nat) (a2 : Option Addr) (n2 c2 : Nat) (w : World) (h : 32768 < n1 ∨ 32768 < n2) :
    Calls Try.prog 3 #[.slice a1 n1 c1, .slice a2 n2 c2] w fun e w' => e = .returned (.bool true) ∧ Below w.heap.size w w' := by
  by_cases hz : n1 + n2 ≤ 1048576
  · have hzz : decide (n1 + n2 ≤ 1048576) = true := decide_eq_true hz
    by_cases h1 : 32768 < n1
    · clear h
      go_enter Try.func3, Try.ntmps3
      go_wp2_with (go_at_call 11; refine (zz11_yes _ _ _ _ _ _ _ hz).mono ?_; rintro e w' ⟨rfl, rfl⟩)
      go_ret
      exact ⟨rfl, Below.refl _ _⟩
    · have h2 : 32768 < n2 := by omega
      clear h
      go_enter Try.func3, Try.ntmps3
      go_wp2_with (go_at_call 11; refine (zz11_yes _ _ _ _ _ _ _ hz).mono ?_; rintro e w' ⟨rfl, rfl⟩)
      go_ret
      exact ⟨rfl, Below.refl _ _⟩
  · have Z : Hid (∀ w, Calls Try.prog 11 #[.slice a1 n1 c1, .slice a2 n2 c2] w fun e w' => e = .returned (.bool false) ∧ w = w') := fun w => by
      have h := zz11_any a1 n1 c1 a2 n2 c2 w
      rw [decide_eq_false hz] at h
      exact h
    clear h hz
    go_enter Try.func3, Try.ntmps3
    go_wp2_with (go_at_call 11; refine (Z.out _).mono ?_; rintro e w' ⟨rfl, rfl⟩)
    go_ret
    exact ⟨rfl, Below.refl _ _⟩

set_option maxRecDepth 100000 in
set_option maxHeartbeats 2000000 in
theorem walk3_go (a1 : Option Addr) (n1 c1 : Nat) (a2 : Option Addr) (n2 c2 : Nat) (hc1 : a1 = Option.none → c1 = 0) (hc2 : a2 = Option.none → c2 = 0) (Ta : Nat → Int) (Va : Nat → Nat) (Tb : Nat → Int) (Vb : Nat → Nat) (w : World)
    (h1 : Pts w a1 n1 Ta Va) (h2 : Pts w a2 n2 Tb Vb) (b1 : n1 ≤ 32768) (b2 : n2 ≤ 32768) :
    Calls Try.prog 3 #[.slice a1 n1 c1, .slice a2 n2 c2] w fun e w' => e = .returned (.bool true) ∧ Below w.heap.size w w' := by
  go_enter Try.func3, Try.ntmps3
  go_wp2_with (go_at_call 11; refine (zz11_yes _ _ _ _ _ _ _ (by omega)).mono ?_; rintro e w' ⟨rfl, rfl⟩)
  refine (nd_any a1 n1 c1 Ta Va _ h1 (by omega)).mono ?_
  rintro e w1 ⟨⟨r1, rfl, hs1⟩, m1, rfl⟩
  cases r1 with
  | false =>
    clear hs1
    go_wp2_with fail
    go_ret
    exact ⟨rfl, below_drewN (Below.refl _ _) _⟩
  | true =>
    have SA : Hid (Sorted Ta n1) := hs1 rfl
    clear hs1
    go_wp2_with fail
    refine (nd_any a2 n2 c2 Tb Vb _ (by exact h2) (by omega)).mono ?_
    rintro e w2 ⟨⟨r2, rfl, hs2⟩, hw2⟩
    have hB2 : Below w.heap.size w w2 := by obtain ⟨m, rfl⟩ := hw2; exact below_drewN (below_drewN (Below.refl _ _) _) _
    clear hw2
    cases r2 with
    | false =>
      clear hs2
      go_wp2_with fail
      go_ret
      exact ⟨rfl, hB2⟩
    | true =>
      have SB : Hid (Sorted Tb n2) := hs2 rfl
      clear hs2
      go_wp2_with fail
      refine (toModel_any a1 n1 c1 hc1 Ta Va _ (pts_below' h1 hB2) (by omega)).mono ?_
      rintro e w3 ⟨ad, rfl, hPa, hB3⟩
      have hB03 : Below w.heap.size w w3 := hB2.trans (hB3.mono hB2.size)
      go_wp2_with fail
      refine (toModel_any a2 n2 c2 hc2 Tb Vb _ (pts_below' h2 hB03) (by omega)).mono ?_
      rintro e w4 ⟨bd, rfl, hPb, hB4⟩
      have hB04 : Below w.heap.size w w4 := hB03.trans (hB4.mono hB03.size)
      have hPa4 : Pts w4 ad n1 Ta Va := pts_below' hPa hB4
      clear hB2 hB3 hB03 hB4 hPa
      go_wp2_with fail
      refine (zzmerge_any ad bd Ta Va n1 Tb Vb n2 _ hPa4 hPb SA.out SB.out b1 b2).mono ?_
      rintro e w5 ⟨hB5, hcase⟩
      have hB05 : Below w.heap.size w w5 := hB04.trans (hB5.mono hB04.size)
      clear hB5 hB04 hPa4 hPb
      rcases hcase with ⟨rfl, hsh⟩ | ⟨B, FT, FV, rfl, hR, hBS, hMg⟩
      · have HS : Hid (∃ p q, p < n1 ∧ q < n2 ∧ Ta p = Tb q) := hsh
        clear hsh
        go_wp2_with fail
        go_loopw [7, 8] (fun v7 v8 wr => ShRel Ta n1 Tb n2 w5 v7 v8 wr) (fun _ v8 _ => n1 - (intOf v8).toNat)
        case atStart => exact ⟨0, false, Nat.zero_le _, rfl, rfl, ⟨fun _ p hp => absurd hp (by omega), fun h => (by cases h)⟩, 0, rfl⟩
        case round =>
          obtain ⟨k, s, hk, rfl, rfl, hSt, m, rfl⟩ := hrel
          have HSt : Hid (ShSt Ta n1 Tb n2 k s) := hSt
          clear hSt
          cases s with
          | true =>
            have q25 : ∀ (w : World) (a : Option Addr) (n c n' c' : Nat), (binOp .eql 25 (.slice a n c) (.slice Option.none n' c')).run Try.prog w = .ok (.bool a.isNone) w := fun w a n c n' c' => Lib.run_eql_slice_nil w _ _ a n c n' c' Try.underlying25
            by_cases hlt : k < n1
            · go_wp2
              go_ret
              exact ⟨rfl, below_drewN hB05 _⟩
            · go_wp2
              go_ret
              exact ⟨rfl, below_drewN hB05 _⟩
          | false =>
            by_cases hlt : k < n1
            · obtain ⟨L, hL⟩ := rank_exists (Ta k) n2 SB.out
              have HL : Hid (IsRank Tb n2 (Ta k) L) := hL
              clear hL
              have K15 : Hid (Calls Try.prog 15 #[.slice a2 n2 c2, .int .i64 (Ta k)] (w5.drewN m) fun e w' => e = .returned (.int .i64 L) ∧ w5.drewN m = w') := cl_at a2 n2 c2 Tb Vb (Ta k) L _ (pts_below' h2 (below_drewN hB05 m)) SB.out (by omega) HL.out
              obtain ⟨x1, y1, e1, ra⟩ := h1.2 (by omega)
              have hx1 : x1 < w.heap.size := at_pt ra (k := k) hlt
              have ca : w5.cell? ⟨x1, y1 + k * 2, Option.none⟩ = some (.int .i64 (Ta k)) := (hB05.cell (by exact hx1)).trans (ra k hlt).1
              clear h1 ra
              subst e1
              by_cases hLt : L < n2
              · obtain ⟨x2, y2, e2, rb⟩ := h2.2 (by omega)
                have hx2 : x2 < w.heap.size := at_pt rb (k := L) hLt
                have cb : w5.cell? ⟨x2, y2 + L * 2, Option.none⟩ = some (.int .i64 (Tb L)) := (hB05.cell (by exact hx2)).trans (rb L hLt).1
                clear h2 rb
                subst e2
                have hLi : (L : Int) < (n2 : Int) := by omega
                by_cases he : Tb L = Ta k
                · have hbe : (Tb L == Ta k) = true := beq_iff_eq.2 he
                  have HN : Hid (ShSt Ta n1 Tb n2 (k + 1) true) := sh_hit hlt hLt he
                  clear he
                  go_wp2_with fail
                  refine K15.out.mono ?_
                  rintro e w6 ⟨rfl, rfl⟩
                  go_wp2_with fail
                  go_quiet (fail)
                  go_wp2
                  go_roundw
                  case rel => exact ⟨k + 1, true, by omega, by go_num, rfl, HN.out, _, by first | rfl | exact World.drewN_drewN _ _ _⟩
                  case measure => simp [intOf]; omega
                · have hbe : (Tb L == Ta k) = false := beq_eq_false_iff_ne.2 he
                  have HN : Hid (ShSt Ta n1 Tb n2 (k + 1) false) := sh_miss SB.out HSt.out HL.out (fun h => he h.2)
                  clear he
                  go_wp2_with fail
                  refine K15.out.mono ?_
                  rintro e w6 ⟨rfl, rfl⟩
                  go_wp2_with fail
                  go_quiet (fail)
                  go_wp2
                  go_roundw
                  case rel => exact ⟨k + 1, false, by omega, by go_num, rfl, HN.out, _, by first | rfl | exact World.drewN_drewN _ _ _⟩
                  case measure => simp [intOf]; omega
              · have HN : Hid (ShSt Ta n1 Tb n2 (k + 1) false) := sh_miss SB.out HSt.out HL.out (fun h => hLt h.1)
                have hLi : decide ((L : Int) < (n2 : Int)) = false := decide_eq_false (by omega)
                have hLn : decide (L < n2) = false := decide_eq_false hLt
                go_wp2_with fail
                refine K15.out.mono ?_
                rintro e w6 ⟨rfl, rfl⟩
                go_wp2_with fail
                go_quiet (fail)
                go_wp2
                go_roundw
                case rel => exact ⟨k + 1, false, by omega, by go_num, rfl, HN.out, _, by first | rfl | exact World.drewN_drewN _ _ _⟩
                case measure => simp [intOf]; omega
            · have ekn : n1 = k := by omega
              subst ekn
              exfalso
              obtain ⟨p, q, hp, hq, e⟩ := HS.out
              exact HSt.out.1 rfl p hp q hq e
      · go_wp2_with fail
        go_loopw [7, 8] (fun v7 v8 wr => ShRel Ta n1 Tb n2 w5 v7 v8 wr) (fun _ v8 _ => n1 - (intOf v8).toNat)
        case atStart => exact ⟨0, false, Nat.zero_le _, rfl, rfl, ⟨fun _ p hp => absurd hp (by omega), fun h => (by cases h)⟩, 0, rfl⟩
        case round =>
          obtain ⟨k, s, hk, rfl, rfl, hSt, m, rfl⟩ := hrel
          have HSt : Hid (ShSt Ta n1 Tb n2 k s) := hSt
          clear hSt
          cases s with
          | true =>
            exfalso
            obtain ⟨p, q, hp, hq, e⟩ := HSt.out.2 rfl
            exact hMg.1 p hp q hq e
          | false =>
            by_cases hlt : k < n1
            · obtain ⟨L, hL⟩ := rank_exists (Ta k) n2 SB.out
              have HL : Hid (IsRank Tb n2 (Ta k) L) := hL
              clear hL
              have K15 : Hid (Calls Try.prog 15 #[.slice a2 n2 c2, .int .i64 (Ta k)] (w5.drewN m) fun e w' => e = .returned (.int .i64 L) ∧ w5.drewN m = w') := cl_at a2 n2 c2 Tb Vb (Ta k) L _ (pts_below' h2 (below_drewN hB05 m)) SB.out (by omega) HL.out
              obtain ⟨x1, y1, e1, ra⟩ := h1.2 (by omega)
              have hx1 : x1 < w.heap.size := at_pt ra (k := k) hlt
              have ca : w5.cell? ⟨x1, y1 + k * 2, Option.none⟩ = some (.int .i64 (Ta k)) := (hB05.cell (by exact hx1)).trans (ra k hlt).1
              clear h1 ra
              subst e1
              by_cases hLt : L < n2
              · obtain ⟨x2, y2, e2, rb⟩ := h2.2 (by omega)
                have hx2 : x2 < w.heap.size := at_pt rb (k := L) hLt
                have cb : w5.cell? ⟨x2, y2 + L * 2, Option.none⟩ = some (.int .i64 (Tb L)) := (hB05.cell (by exact hx2)).trans (rb L hLt).1
                clear h2 rb
                subst e2
                have hLi : (L : Int) < (n2 : Int) := by omega
                by_cases he : Tb L = Ta k
                · have hbe : (Tb L == Ta k) = true := beq_iff_eq.2 he
                  have HN : Hid (ShSt Ta n1 Tb n2 (k + 1) true) := sh_hit hlt hLt he
                  clear he
                  go_wp2_with fail
                  refine K15.out.mono ?_
                  rintro e w6 ⟨rfl, rfl⟩
                  go_wp2_with fail
                  go_quiet (fail)
                  go_wp2
                  go_roundw
                  case rel => exact ⟨k + 1, true, by omega, by go_num, rfl, HN.out, _, by first | rfl | exact World.drewN_drewN _ _ _⟩
                  case measure => simp [intOf]; omega
                · have hbe : (Tb L == Ta k) = false := beq_eq_false_iff_ne.2 he
                  have HN : Hid (ShSt Ta n1 Tb n2 (k + 1) false) := sh_miss SB.out HSt.out HL.out (fun h => he h.2)
                  clear he
                  go_wp2_with fail
                  refine K15.out.mono ?_
                  rintro e w6 ⟨rfl, rfl⟩
                  go_wp2_with fail
                  go_quiet (fail)
                  go_wp2
                  go_roundw
                  case rel => exact ⟨k + 1, false, by omega, by go_num, rfl, HN.out, _, by first | rfl | exact World.drewN_drewN _ _ _⟩
                  case measure => simp [intOf]; omega
              · have HN : Hid (ShSt Ta n1 Tb n2 (k + 1) false) := sh_miss SB.out HSt.out HL.out (fun h => hLt h.1)
                have hLi : decide ((L : Int) < (n2 : Int)) = false := decide_eq_false (by omega)
                have hLn : decide (L < n2) = false := decide_eq_false hLt
                go_wp2_with fail
                refine K15.out.mono ?_
                rintro e w6 ⟨rfl, rfl⟩
                go_wp2_with fail
                go_quiet (fail)
                go_wp2
                go_roundw
                case rel => exact ⟨k + 1, false, by omega, by go_num, rfl, HN.out, _, by first | rfl | exact World.drewN_drewN _ _ _⟩
                case measure => simp [intOf]; omega
            · have ekn : n1 = k := by omega
              subst ekn
              go_wp2_with fail
              go_loopw [10] (fun v wr => ∃ k : Nat, k ≤ n1 ∧ v = .int .i64 k ∧ Below w5.heap.size w5 wr) (fun v _ => n1 - (intOf v).toNat)
              case atStart => exact ⟨0, Nat.zero_le _, rfl, below_drewN (Below.refl _ _) _⟩
              case round =>
                obtain ⟨k, hk, rfl, hBr⟩ := hrel
                by_cases hlt : k < n1
                · obtain ⟨L, hL⟩ := rank_exists (Ta k) n2 SB.out
                  have hBw : Below w.heap.size w wr := hB05.trans (hBr.mono hB05.size)
                  have hLn : L ≤ n2 := hL.1
                  have K15 : Hid (∀ wx, Below wr.heap.size wr wx → Calls Try.prog 15 #[.slice a2 n2 c2, .int .i64 (Ta k)] wx fun e w' => e = .returned (.int .i64 L) ∧ wx = w') := fun wx hwx => cl_at a2 n2 c2 Tb _ (Ta k) L _ (pts_below' h2 (hBw.trans (hwx.mono hBw.size))) SB.out (by omega) hL
                  obtain ⟨x1, y1, e1, ra⟩ := h1.2 (by omega)
                  have hx1 : x1 < w.heap.size := at_pt ra (k := k) hlt
                  have ca0 : wr.cell? ⟨x1, y1 + k * 2, Option.none⟩ = some (.int .i64 (Ta k)) := (hBw.cell (by exact hx1)).trans (ra k hlt).1
                  have ca1 : wr.cell? ⟨x1, y1 + k * 2 + 1, Option.none⟩ = some (.float .f64 (Va k)) := (hBw.cell (by exact hx1)).trans (ra k hlt).2
                  have hg := hMg.2.1 k hlt L hL
                  have g0 : wr.cell? ⟨B, (k + L) * 2, Option.none⟩ = some (.int .i64 (Ta k)) := by
                    have h := (hR (k + L) (by omega)).1
                    rw [hg.1, Nat.zero_add] at h
                    exact (hBr.cell (by exact hBS)).trans h
                  have g1 : wr.cell? ⟨B, (k + L) * 2 + 1, Option.none⟩ = some (.float .f64 (Va k)) := by
                    have h := (hR (k + L) (by omega)).2
                    rw [hg.2, Nat.zero_add] at h
                    exact (hBr.cell (by exact hBS)).trans h
                  clear hL hg ra
                  subst e1
                  go_wp2_with fail
                  go_cut [116] (fun v wx => v = .bool false ∧ Below w5.heap.size w5 wx)
                  case first =>
                    have hwr : IntKind.i64.wrap ((k : Int) + (L : Int)) = (k : Int) + (L : Int) := by rw [IntKind.wrap_i64]; omega
                    have hto : ((k : Int) + (L : Int)).toNat = k + L := by omega
                    have hlo : (0 : Int) ≤ (k : Int) + (L : Int) := by omega
                    have hhi : (k : Int) + (L : Int) < (n1 : Int) + (n2 : Int) := by omega
                    have hki : (k : Int) < (n1 : Int) := by omega
                    go_region_with (first | (go_at_call 15; refine (K15.out _ (Below.refl _ _).drew).mono ?_; rintro e w' ⟨rfl, rfl⟩) | (go_at_call 16; refine (sp_any (Ta k) (Va k) _).mono ?_; rintro e w' ⟨rfl, hB6⟩))
                    all_goals go_wp2_with fail
                    all_goals go_meet
                    all_goals exact ⟨rfl, hBr.drew.trans (hB6.mono hBr.size)⟩
                  case rest =>
                    obtain ⟨rfl, hB7⟩ := hcut
                    go_wp2
                    go_roundw
                    case rel => exact ⟨k + 1, by omega, by go_num, hB7⟩
                    case measure => simp [intOf]; omega
                · go_wp2_with fail
                  go_loopw [11] (fun v wr => ∃ k : Nat, k ≤ n2 ∧ v = .int .i64 k ∧ Below w5.heap.size w5 wr) (fun v _ => n2 - (intOf v).toNat)
                  case atStart => exact ⟨0, Nat.zero_le _, rfl, hBr⟩
                  case round =>
                    obtain ⟨k, hk, rfl, hBr⟩ := hrel
                    by_cases hlt : k < n2
                    · obtain ⟨L, hL⟩ := rank_exists (Tb k) n1 SA.out
                      have hBw : Below w.heap.size w wr := hB05.trans (hBr.mono hB05.size)
                      have hLn : L ≤ n1 := hL.1
                      have K15 : Hid (∀ wx, Below wr.heap.size wr wx → Calls Try.prog 15 #[.slice a1 n1 c1, .int .i64 (Tb k)] wx fun e w' => e = .returned (.int .i64 L) ∧ wx = w') := fun wx hwx => cl_at a1 n1 c1 Ta _ (Tb k) L _ (pts_below' h1 (hBw.trans (hwx.mono hBw.size))) SA.out (by omega) hL
                      obtain ⟨x1, y1, e1, ra⟩ := h2.2 (by omega)
                      have hx1 : x1 < w.heap.size := at_pt ra (k := k) hlt
                      have ca0 : wr.cell? ⟨x1, y1 + k * 2, Option.none⟩ = some (.int .i64 (Tb k)) := (hBw.cell (by exact hx1)).trans (ra k hlt).1
                      have ca1 : wr.cell? ⟨x1, y1 + k * 2 + 1, Option.none⟩ = some (.float .f64 (Vb k)) := (hBw.cell (by exact hx1)).trans (ra k hlt).2
                      have hg := hMg.2.2 k hlt L hL
                      have g0 : wr.cell? ⟨B, (k + L) * 2, Option.none⟩ = some (.int .i64 (Tb k)) := by
                        have h := (hR (k + L) (by omega)).1
                        rw [hg.1, Nat.zero_add] at h
                        exact (hBr.cell (by exact hBS)).trans h
                      have g1 : wr.cell? ⟨B, (k + L) * 2 + 1, Option.none⟩ = some (.float .f64 (Vb k)) := by
                        have h := (hR (k + L) (by omega)).2
                        rw [hg.2, Nat.zero_add] at h
                        exact (hBr.cell (by exact hBS)).trans h
                      clear hL hg ra
                      subst e1
                      go_wp2_with fail
                      go_cut [140] (fun v wx => v = .bool false ∧ Below w5.heap.size w5 wx)
                      case first =>
                        have hwr : IntKind.i64.wrap ((k : Int) + (L : Int)) = (k : Int) + (L : Int) := by rw [IntKind.wrap_i64]; omega
                        have hto : ((k : Int) + (L : Int)).toNat = k + L := by omega
                        have hlo : (0 : Int) ≤ (k : Int) + (L : Int) := by omega
                        have hhi : (k : Int) + (L : Int) < (n1 : Int) + (n2 : Int) := by omega
                        have hki : (k : Int) < (n2 : Int) := by omega
                        go_region_with (first | (go_at_call 15; refine (K15.out _ (Below.refl _ _).drew).mono ?_; rintro e w' ⟨rfl, rfl⟩) | (go_at_call 16; refine (sp_any (Tb k) (Vb k) _).mono ?_; rintro e w' ⟨rfl, hB6⟩))
                        all_goals go_wp2_with fail
                        all_goals go_meet
                        all_goals exact ⟨rfl, hBr.drew.trans (hB6.mono hBr.size)⟩
                      case rest =>
                        obtain ⟨rfl, hB7⟩ := hcut
                        go_wp2
                        go_roundw
                        case rel => exact ⟨k + 1, by omega, by go_num, hB7⟩
                        case measure => simp [intOf]; omega
                    · go_wp2
                      go_ret
                      exact ⟨rfl, hB05.trans (hBr.mono hB05.size)⟩

theorem walk3 (a1 : Option Addr) (n1 c1 : Nat) (a2 : Option Addr) (n2 c2 : Nat) (hc1 : a1 = Option.none → c1 = 0) (hc2 : a2 = Option.none → c2 = 0) (Ta : Nat → Int) (Va : Nat → Nat) (Tb : Nat → Int) (Vb : Nat → Nat) (w : World)
    (h1 : Pts w a1 n1 Ta Va) (h2 : Pts w a2 n2 Tb Vb) :
    Calls Try.prog 3 #[.slice a1 n1 c1, .slice a2 n2 c2] w fun e w' => e = .returned (.bool true) ∧ Below w.heap.size w w' := by
  by_cases h : 32768 < n1 ∨ 32768 < n2
  · exact walk3_long a1 n1 c1 a2 n2 c2 w h
  · exact walk3_go a1 n1 c1 a2 n2 c2 hc1 hc2 Ta Va Tb Vb w h1 h2 (by omega) (by omega)
end Go.Proofs.Qxb6601754a
